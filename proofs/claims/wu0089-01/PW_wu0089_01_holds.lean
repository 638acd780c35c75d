import PyProof.Rows.All
import Wide.All
import OpenK.AllK
import Wide.FinOn
import KE.KNestM
import PySem.Challenge.RW_wu0089_01
set_option Elab.async false
set_option maxRecDepth 100000
set_option maxHeartbeats 8000000
set_option linter.all false
set_option compiler.extract_closed false
open PySem PySem.W PyProof.Rows PySem.Spec PySem.Calls
namespace Mine
section
open PySem PySem.W PyProof.Rows
/-- the text's statements, by their places -/
noncomputable abbrev pgm : Program := PySem.Challenge.rw_wu0089_01.row.toRowW.1
noncomputable def cell (n : Nat) : Stmt := (pgm.main.body.drop n).headD (.Pass ⟨0, 0, 0, 0⟩)
noncomputable def kid (s : Stmt) (n : Nat) : Stmt := match s with | .ClassDef _ _ _ b .. => (b.drop n).headD (.Pass ⟨0, 0, 0, 0⟩) | _ => .Pass ⟨0, 0, 0, 0⟩
noncomputable def fB (s : Stmt) : List Stmt := match s with | .FunctionDef _ _ b .. => b | _ => []
noncomputable def b38 : List Stmt := fB (cell 1)
noncomputable def b57 : List Stmt := fB (kid (cell 6) 0)
noncomputable def b64 : List Stmt := fB (kid (cell 6) 1)
noncomputable def b71 : List Stmt := fB (kid (cell 6) 2)
noncomputable def b78 : List Stmt := fB (kid (cell 6) 3)
noncomputable def b85 : List Stmt := fB (kid (cell 6) 4)
noncomputable def b92 : List Stmt := fB (kid (cell 6) 5)
noncomputable def b99 : List Stmt := fB (kid (cell 6) 6)
noncomputable def b106 : List Stmt := fB (kid (cell 6) 7)
noncomputable def b113 : List Stmt := fB (kid (cell 6) 8)
noncomputable def b137 : List Stmt := fB (kid (cell 7) 0)
noncomputable def b144 : List Stmt := fB (kid (cell 7) 1)
noncomputable def b152 : List Stmt := fB (kid (cell 7) 2)
noncomputable def b160 : List Stmt := fB (kid (cell 7) 3)
noncomputable def b167 : List Stmt := fB (kid (cell 7) 4)
noncomputable def b174 : List Stmt := fB (kid (cell 7) 5)
noncomputable def b182 : List Stmt := fB (kid (cell 7) 6)
noncomputable def b189 : List Stmt := fB (kid (cell 7) 7)
noncomputable def b197 : List Stmt := fB (kid (cell 7) 8)
noncomputable def b248 : List Stmt := fB (cell 12)
noncomputable def b255 : List Stmt := fB (cell 13)
noncomputable def b262 : List Stmt := fB (cell 15)
noncomputable def b276 : List Stmt := fB (kid (cell 17) 0)
noncomputable def b283 : List Stmt := fB (kid (cell 17) 1)
noncomputable def b290 : List Stmt := fB (kid (cell 17) 2)
noncomputable def b297 : List Stmt := fB (kid (cell 17) 3)
noncomputable def b311 : List Stmt := fB (cell 19)
noncomputable def b316 : List Stmt := fB (cell 20)
noncomputable def b323 : List Stmt := fB (cell 21)
noncomputable def b330 : List Stmt := fB (cell 22)
noncomputable def b337 : List Stmt := fB (cell 23)
noncomputable def b342 : List Stmt := fB (cell 24)
/-- the objects of the text that the run of its top leaves -/
noncomputable def hd.heap_39 (P : Params) : Frag := ((
(nat_lit 2, .mk .none (none : Option Nat) (.dict #[.mk (PyData.keyHash P "\x69mport.loaded._sre") (.str "\x69mport.loaded._sre" (183 : Nat)) (.bool .true), .mk (PyData.keyHash P "class._frozen_importlib.BuiltinImporter") (.str "class._frozen_importlib.BuiltinImporter" (185 : Nat)) (.ref (14 : Nat)), .mk (PyData.keyHash P "watched.\x69mport") (.str "watched.\x69mport" (206 : Nat)) (.ref (18 : Nat)), .mk (PyData.keyHash P "class._frozen_importlib.ModuleSpec") (.str "class._frozen_importlib.ModuleSpec" (216 : Nat)) (.ref (22 : Nat)), .mk (PyData.keyHash P "sys.modules.booked-epoch") (.str "sys.modules.booked-epoch" (245 : Nat)) (.int 3 (0 : Nat)), .mk (PyData.keyHash P "\x69mport.later-laid._sre") (.str "\x69mport.later-laid._sre" (270 : Nat)) (.bool .true), .mk (PyData.keyHash P "watched.library") (.str "watched.library" (272 : Nat)) (.ref (27 : Nat)), .mk (PyData.keyHash P "watched.library-objects") (.str "watched.library-objects" (0 : Nat)) (.str "\x0c" (0 : Nat)), .mk (PyData.keyHash P "watched.library-deep._sre") (.str "watched.library-deep._sre" (273 : Nat)) (.str "\x04\x00\x00\x0b\x04\x00\x00\x0b\x04\x00\x00\x03\x04\x00\x00\x0b\x08\x04dict\x02" (0 : Nat)), .mk (PyData.keyHash P "type.__subclasses__.Exception.0") (.str "type.__subclasses__.Exception.0" (551 : Nat)) (.int 214 (0 : Nat)), .mk (PyData.keyHash P "type.__subclasses__.Exception.n") (.str "type.__subclasses__.Exception.n" (552 : Nat)) (.int 1 (0 : Nat))] 11) #[]) ::
(nat_lit 3, .mk (.type "dict") (none : Option Nat) (.dict #[.mk (PyData.keyHash P "__name__") (.str "__name__" (165 : Nat)) (.str "law_wu0089_01" (681 : Nat)), .mk (PyData.keyHash P "__doc__") (.str "__doc__" (166 : Nat)) .none, .mk (PyData.keyHash P "__package__") (.str "__package__" (167 : Nat)) .none, .mk (PyData.keyHash P "__loader__") (.str "__loader__" (168 : Nat)) (.builtin "__main__.__loader__#opaque"), .mk (PyData.keyHash P "__spec__") (.str "__spec__" (169 : Nat)) .none, .mk (PyData.keyHash P "__annotations__") (.str "__annotations__" (170 : Nat)) (.ref (6 : Nat)), .mk (PyData.keyHash P "__builtins__") (.str "__builtins__" (171 : Nat)) (.ref (4 : Nat)), .mk (PyData.keyHash P "__file__") (.str "__file__" (173 : Nat)) (.str "/claim/cut.py" (172 : Nat)), .mk (PyData.keyHash P "__cached__") (.str "__cached__" (174 : Nat)) .none, .mk (PyData.keyHash P "_sre") (.str "_sre" (275 : Nat)) (.ref (12 : Nat)), .mk (PyData.keyHash P "_wall") (.str "_wall" (288 : Nat)) (.ref (38 : Nat)), .mk (PyData.keyHash P "_twin_re_1") (.str "_twin_re_1" (318 : Nat)) (.ref (43 : Nat)), .mk (PyData.keyHash P "NL") (.str "NL" (320 : Nat)) (.str "\n" (319 : Nat)), .mk (PyData.keyHash P "EMPTYSTRING") (.str "EMPTYSTRING" (322 : Nat)) (.str "" (321 : Nat)), .mk (PyData.keyHash P "_ValueFormatter") (.str "_ValueFormatter" (436 : Nat)) (.ref (116 : Nat)), .mk (PyData.keyHash P "_Accumulator") (.str "_Accumulator" (532 : Nat)) (.ref (200 : Nat)), .mk (PyData.keyHash P "Error") (.str "Error" (554 : Nat)) (.ref (214 : Nat)), .mk (PyData.keyHash P "error_reply") (.str "error_reply" (570 : Nat)) (.ref (227 : Nat)), .mk (PyData.keyHash P "error_proto") (.str "error_proto" (586 : Nat)) (.ref (239 : Nat)), .mk (PyData.keyHash P "parse229") (.str "parse229" (599 : Nat)) (.ref (248 : Nat)), .mk (PyData.keyHash P "parse257") (.str "parse257" (610 : Nat)) (.ref (255 : Nat)), .mk (PyData.keyHash P "_strcoll") (.str "_strcoll" (620 : Nat)) (.ref (262 : Nat)), .mk (PyData.keyHash P "_netrclex") (.str "_netrclex" (680 : Nat)) (.ref (300 : Nat)), .mk (PyData.keyHash P "_law_lexer") (.str "_law_lexer" (691 : Nat)) (.ref (311 : Nat)), .mk (PyData.keyHash P "_law_operand") (.str "_law_operand" (697 : Nat)) (.ref (316 : Nat)), .mk (PyData.keyHash P "_law_tell") (.str "_law_tell" (712 : Nat)) (.ref (323 : Nat)), .mk (PyData.keyHash P "_law_ends") (.str "_law_ends" (724 : Nat)) (.ref (330 : Nat)), .mk (PyData.keyHash P "_law_read") (.str "_law_read" (736 : Nat)) (.ref (337 : Nat)), .mk (PyData.keyHash P "law") (.str "law" (742 : Nat)) (.ref (342 : Nat))] 29) #[]) ::
(nat_lit 32, .mk (.type "tuple") (none : Option Nat) (.seq #[] 0) #[]) ::
(nat_lit 34, .mk (.type "tuple") (none : Option Nat) (.seq #[.str "k" (285 : Nat)] 0) #[]) ::
(nat_lit 35, .mk (.type "tuple") (none : Option Nat) (.seq #[] 0) #[]) ::
(nat_lit 37, .mk (.type "code") (none : Option Nat) (.fields #[.str "_wall" (282 : Nat), .str "_wall" (283 : Nat), .str "/claim/cut.py" (284 : Nat), .int 2 (0 : Nat), .int 1 (0 : Nat), .int 0 (0 : Nat), .int 0 (0 : Nat), .int 3 (0 : Nat), .ref (32 : Nat), .bool .true, .int 276 (0 : Nat), .ref (33 : Nat), .none, .ref (34 : Nat), .ref (35 : Nat), .ref (36 : Nat), .int 286 (0 : Nat), .int 2 (0 : Nat), .str "/claim/cut.py" (287 : Nat)]) #[]) ::
(nat_lit 38, .mk (.type "function") (none : Option Nat) (.func (.mk "_wall" "_wall" (.mk [] [.mk "k" none (.mk 2 10 2 11)] none [] [] none []) (.stmts b38) (.mk .function [("k", .local)] .false .false []) (3 : Nat) [] .none .none .none (.str "__main__" (164 : Nat)) (none : Option Nat) (.ref (37 : Nat)) .none (0 : Nat))) #[]) ::
(nat_lit 42, .mk (.type "tuple") (none : Option Nat) (.seq #[.int 14 (0 : Nat), .int 4 (0 : Nat), .int 0 (0 : Nat), .int 1 (0 : Nat), .int 4294967295 (0 : Nat), .int 17 (0 : Nat), .int 0 (0 : Nat), .int 24 (0 : Nat), .int 11 (0 : Nat), .int 1 (0 : Nat), .int 4294967295 (0 : Nat), .int 13 (0 : Nat), .int 6 (0 : Nat), .int 16 (0 : Nat), .int 32 (0 : Nat), .int 16 (0 : Nat), .int 9 (0 : Nat), .int 0 (0 : Nat), .int 1 (0 : Nat), .int 17 (0 : Nat), .int 1 (0 : Nat), .int 1 (0 : Nat)] 0) #[]) ::
(nat_lit 43, .mk (.type "re.Pattern") (none : Option Nat) (.fields #[.str "([ \t]+)" (292 : Nat), .int 32 (317 : Nat), .int 1 (0 : Nat), .none, .none, .ref (42 : Nat), .int 0 (0 : Nat)]) #[]) ::
(nat_lit 51, .mk (.type "tuple") (none : Option Nat) (.seq #[] 0) #[]) ::
(nat_lit 53, .mk (.type "tuple") (none : Option Nat) (.seq #[.str "self" (338 : Nat), .str "headerlen" (339 : Nat), .str "maxlen" (340 : Nat), .str "continuation_ws" (341 : Nat), .str "splitchars" (342 : Nat)] 0) #[]) ::
(nat_lit 54, .mk (.type "tuple") (none : Option Nat) (.seq #[] 0) #[]) ::
(nat_lit 56, .mk (.type "code") (none : Option Nat) (.fields #[.str "__init__" (335 : Nat), .str "_ValueFormatter.__init__" (336 : Nat), .str "/claim/cut.py" (337 : Nat), .int 11 (0 : Nat), .int 5 (0 : Nat), .int 0 (0 : Nat), .int 0 (0 : Nat), .int 3 (0 : Nat), .ref (51 : Nat), .bool .true, .int 276 (0 : Nat), .ref (52 : Nat), .none, .ref (53 : Nat), .ref (54 : Nat), .ref (55 : Nat), .int 343 (0 : Nat), .int 11 (0 : Nat), .str "/claim/cut.py" (344 : Nat)]) #[]) ::
(nat_lit 57, .mk (.type "function") (none : Option Nat) (.func (.mk "__init__" "_ValueFormatter.__init__" (.mk [] [.mk "self" none (.mk 11 17 11 21), .mk "headerlen" none (.mk 11 23 11 32), .mk "maxlen" none (.mk 11 34 11 40), .mk "continuation_ws" none (.mk 11 42 11 57), .mk "splitchars" none (.mk 11 59 11 69)] none [] [] none []) (.stmts b57) (.mk .function [("self", .local), ("headerlen", .local), ("maxlen", .local), ("continuation_ws", .local), ("splitchars", .local), ("len", .globalImplicit), ("_Accumulator", .globalImplicit)] .false .false []) (3 : Nat) [] .none .none .none (.str "cpy313.email.header" (289 : Nat)) (none : Option Nat) (.ref (56 : Nat)) .none (0 : Nat))) #[]) ::
(nat_lit 58, .mk (.type "tuple") (none : Option Nat) (.seq #[] 0) #[]) ::
(nat_lit 60, .mk (.type "tuple") (none : Option Nat) (.seq #[.str "self" (349 : Nat), .str "linesep" (350 : Nat)] 0) #[]) ::
(nat_lit 61, .mk (.type "tuple") (none : Option Nat) (.seq #[] 0) #[]) ::
(nat_lit 63, .mk (.type "code") (none : Option Nat) (.fields #[.str "_str" (346 : Nat), .str "_ValueFormatter._str" (347 : Nat), .str "/claim/cut.py" (348 : Nat), .int 19 (0 : Nat), .int 2 (0 : Nat), .int 0 (0 : Nat), .int 0 (0 : Nat), .int 3 (0 : Nat), .ref (58 : Nat), .bool .true, .int 276 (0 : Nat), .ref (59 : Nat), .none, .ref (60 : Nat), .ref (61 : Nat), .ref (62 : Nat), .int 351 (0 : Nat), .int 19 (0 : Nat), .str "/claim/cut.py" (352 : Nat)]) #[]) ::
(nat_lit 64, .mk (.type "function") (none : Option Nat) (.func (.mk "_str" "_ValueFormatter._str" (.mk [] [.mk "self" none (.mk 19 13 19 17), .mk "linesep" none (.mk 19 19 19 26)] none [] [] none []) (.stmts b64) (.mk .function [("self", .local), ("linesep", .local)] .false .false []) (3 : Nat) [] .none .none .none (.str "cpy313.email.header" (289 : Nat)) (none : Option Nat) (.ref (63 : Nat)) .none (0 : Nat))) #[]) ::
(nat_lit 65, .mk (.type "tuple") (none : Option Nat) (.seq #[] 0) #[]) ::
(nat_lit 67, .mk (.type "tuple") (none : Option Nat) (.seq #[.str "self" (357 : Nat)] 0) #[]) ::
(nat_lit 68, .mk (.type "tuple") (none : Option Nat) (.seq #[] 0) #[]) ::
(nat_lit 70, .mk (.type "code") (none : Option Nat) (.fields #[.str "__str__" (354 : Nat), .str "_ValueFormatter.__str__" (355 : Nat), .str "/claim/cut.py" (356 : Nat), .int 23 (0 : Nat), .int 1 (0 : Nat), .int 0 (0 : Nat), .int 0 (0 : Nat), .int 3 (0 : Nat), .ref (65 : Nat), .bool .true, .int 276 (0 : Nat), .ref (66 : Nat), .none, .ref (67 : Nat), .ref (68 : Nat), .ref (69 : Nat), .int 358 (0 : Nat), .int 23 (0 : Nat), .str "/claim/cut.py" (359 : Nat)]) #[]) ::
(nat_lit 71, .mk (.type "function") (none : Option Nat) (.func (.mk "__str__" "_ValueFormatter.__str__" (.mk [] [.mk "self" none (.mk 23 16 23 20)] none [] [] none []) (.stmts b71) (.mk .function [("self", .local), ("NL", .globalImplicit)] .false .false []) (3 : Nat) [] .none .none .none (.str "cpy313.email.header" (289 : Nat)) (none : Option Nat) (.ref (70 : Nat)) .none (0 : Nat))) #[]) ::
(nat_lit 72, .mk (.type "tuple") (none : Option Nat) (.seq #[] 0) #[]) ::
(nat_lit 74, .mk (.type "tuple") (none : Option Nat) (.seq #[.str "self" (364 : Nat), .str "end_of_line" (365 : Nat)] 0) #[]) ::
(nat_lit 75, .mk (.type "tuple") (none : Option Nat) (.seq #[] 0) #[]) ::
(nat_lit 77, .mk (.type "code") (none : Option Nat) (.fields #[.str "newline" (361 : Nat), .str "_ValueFormatter.newline" (362 : Nat), .str "/claim/cut.py" (363 : Nat), .int 26 (0 : Nat), .int 1 (0 : Nat), .int 0 (0 : Nat), .int 0 (0 : Nat), .int 3 (0 : Nat), .ref (72 : Nat), .bool .true, .int 276 (0 : Nat), .ref (73 : Nat), .none, .ref (74 : Nat), .ref (75 : Nat), .ref (76 : Nat), .int 366 (0 : Nat), .int 26 (0 : Nat), .str "/claim/cut.py" (367 : Nat)]) #[]) ::
(nat_lit 78, .mk (.type "function") (none : Option Nat) (.func (.mk "newline" "_ValueFormatter.newline" (.mk [] [.mk "self" none (.mk 26 16 26 20)] none [] [] none []) (.stmts b78) (.mk .function [("self", .local), ("end_of_line", .local), ("len", .globalImplicit), ("str", .globalImplicit)] .false .false []) (3 : Nat) [] .none .none .none (.str "cpy313.email.header" (289 : Nat)) (none : Option Nat) (.ref (77 : Nat)) .none (0 : Nat))) #[]) ::
(nat_lit 79, .mk (.type "tuple") (none : Option Nat) (.seq #[] 0) #[]) ::
(nat_lit 81, .mk (.type "tuple") (none : Option Nat) (.seq #[.str "self" (372 : Nat)] 0) #[]) ::
(nat_lit 82, .mk (.type "tuple") (none : Option Nat) (.seq #[] 0) #[]) ::
(nat_lit 84, .mk (.type "code") (none : Option Nat) (.fields #[.str "add_transition" (369 : Nat), .str "_ValueFormatter.add_transition" (370 : Nat), .str "/claim/cut.py" (371 : Nat), .int 37 (0 : Nat), .int 1 (0 : Nat), .int 0 (0 : Nat), .int 0 (0 : Nat), .int 3 (0 : Nat), .ref (79 : Nat), .bool .true, .int 276 (0 : Nat), .ref (80 : Nat), .none, .ref (81 : Nat), .ref (82 : Nat), .ref (83 : Nat), .int 373 (0 : Nat), .int 37 (0 : Nat), .str "/claim/cut.py" (374 : Nat)]) #[]) ::
(nat_lit 85, .mk (.type "function") (none : Option Nat) (.func (.mk "add_transition" "_ValueFormatter.add_transition" (.mk [] [.mk "self" none (.mk 37 23 37 27)] none [] [] none []) (.stmts b85) (.mk .function [("self", .local), ("_wall", .globalImplicit)] .false .false []) (3 : Nat) [] .none .none .none (.str "cpy313.email.header" (289 : Nat)) (none : Option Nat) (.ref (84 : Nat)) .none (0 : Nat))) #[]) ::
(nat_lit 86, .mk (.type "tuple") (none : Option Nat) (.seq #[] 0) #[]) ::
(nat_lit 88, .mk (.type "tuple") (none : Option Nat) (.seq #[.str "self" (379 : Nat), .str "fws" (380 : Nat), .str "string" (381 : Nat), .str "charset" (382 : Nat), .str "encoded_lines" (383 : Nat), .str "first_line" (384 : Nat), .str "last_line" (385 : Nat), .str "line" (386 : Nat)] 0) #[]) ::
(nat_lit 89, .mk (.type "tuple") (none : Option Nat) (.seq #[] 0) #[]) ::
(nat_lit 91, .mk (.type "code") (none : Option Nat) (.fields #[.str "feed" (376 : Nat), .str "_ValueFormatter.feed" (377 : Nat), .str "/claim/cut.py" (378 : Nat), .int 40 (0 : Nat), .int 4 (0 : Nat), .int 0 (0 : Nat), .int 0 (0 : Nat), .int 3 (0 : Nat), .ref (86 : Nat), .bool .true, .int 276 (0 : Nat), .ref (87 : Nat), .none, .ref (88 : Nat), .ref (89 : Nat), .ref (90 : Nat), .int 387 (0 : Nat), .int 40 (0 : Nat), .str "/claim/cut.py" (388 : Nat)]) #[]) ::
(nat_lit 92, .mk (.type "function") (none : Option Nat) (.func (.mk "feed" "_ValueFormatter.feed" (.mk [] [.mk "self" none (.mk 40 13 40 17), .mk "fws" none (.mk 40 19 40 22), .mk "string" none (.mk 40 24 40 30), .mk "charset" none (.mk 40 32 40 39)] none [] [] none []) (.stmts b92) (.mk .function [("self", .local), ("fws", .local), ("string", .local), ("charset", .local), ("encoded_lines", .local), ("first_line", .local), ("last_line", .local), ("line", .local), ("IndexError", .globalImplicit)] .false .false []) (3 : Nat) [] .none .none .none (.str "cpy313.email.header" (289 : Nat)) (none : Option Nat) (.ref (91 : Nat)) .none (0 : Nat))) #[]) ::
(nat_lit 93, .mk (.type "tuple") (none : Option Nat) (.seq #[] 0) #[]) ::
(nat_lit 95, .mk (.type "tuple") (none : Option Nat) (.seq #[.str "self" (393 : Nat)] 0) #[]) ::
(nat_lit 96, .mk (.type "tuple") (none : Option Nat) (.seq #[] 0) #[]) ::
(nat_lit 98, .mk (.type "code") (none : Option Nat) (.fields #[.str "_maxlengths" (390 : Nat), .str "_ValueFormatter._maxlengths" (391 : Nat), .str "/claim/cut.py" (392 : Nat), .int 60 (0 : Nat), .int 1 (0 : Nat), .int 0 (0 : Nat), .int 0 (0 : Nat), .int 35 (0 : Nat), .ref (93 : Nat), .bool .true, .int 276 (0 : Nat), .ref (94 : Nat), .none, .ref (95 : Nat), .ref (96 : Nat), .ref (97 : Nat), .int 394 (0 : Nat), .int 60 (0 : Nat), .str "/claim/cut.py" (395 : Nat)]) #[]) ::
(nat_lit 99, .mk (.type "function") (none : Option Nat) (.func (.mk "_maxlengths" "_ValueFormatter._maxlengths" (.mk [] [.mk "self" none (.mk 60 20 60 24)] none [] [] none []) (.stmts b99) (.mk .function [("self", .local), ("len", .globalImplicit)] .true .false []) (3 : Nat) [] .none .none .none (.str "cpy313.email.header" (289 : Nat)) (none : Option Nat) (.ref (98 : Nat)) .none (0 : Nat))) #[]) ::
(nat_lit 100, .mk (.type "tuple") (none : Option Nat) (.seq #[] 0) #[]) ::
(nat_lit 102, .mk (.type "tuple") (none : Option Nat) (.seq #[.str "self" (400 : Nat), .str "fws" (401 : Nat), .str "string" (402 : Nat), .str "splitchars" (403 : Nat), .str "parts" (404 : Nat), .str "part" (405 : Nat)] 0) #[]) ::
(nat_lit 103, .mk (.type "tuple") (none : Option Nat) (.seq #[] 0) #[]) ::
(nat_lit 105, .mk (.type "code") (none : Option Nat) (.fields #[.str "_ascii_split" (397 : Nat), .str "_ValueFormatter._ascii_split" (398 : Nat), .str "/claim/cut.py" (399 : Nat), .int 65 (0 : Nat), .int 4 (0 : Nat), .int 0 (0 : Nat), .int 0 (0 : Nat), .int 3 (0 : Nat), .ref (100 : Nat), .bool .true, .int 276 (0 : Nat), .ref (101 : Nat), .none, .ref (102 : Nat), .ref (103 : Nat), .ref (104 : Nat), .int 406 (0 : Nat), .int 65 (0 : Nat), .str "/claim/cut.py" (407 : Nat)]) #[]) ::
(nat_lit 106, .mk (.type "function") (none : Option Nat) (.func (.mk "_ascii_split" "_ValueFormatter._ascii_split" (.mk [] [.mk "self" none (.mk 65 21 65 25), .mk "fws" none (.mk 65 27 65 30), .mk "string" none (.mk 65 32 65 38), .mk "splitchars" none (.mk 65 40 65 50)] none [] [] none []) (.stmts b106) (.mk .function [("self", .local), ("fws", .local), ("string", .local), ("splitchars", .local), ("parts", .local), ("part", .local), ("_twin_re_1", .globalImplicit), ("zip", .globalImplicit), ("iter", .globalImplicit)] .false .false []) (3 : Nat) [] .none .none .none (.str "cpy313.email.header" (289 : Nat)) (none : Option Nat) (.ref (105 : Nat)) .none (0 : Nat))) #[]) ::
(nat_lit 107, .mk (.type "tuple") (none : Option Nat) (.seq #[] 0) #[]) ::
(nat_lit 109, .mk (.type "tuple") (none : Option Nat) (.seq #[.str "self" (412 : Nat), .str "fws" (413 : Nat), .str "string" (414 : Nat), .str "ch" (415 : Nat), .str "i" (416 : Nat), .str "prevpart" (417 : Nat), .str "part" (418 : Nat), .str "remainder" (419 : Nat)] 0) #[]) ::
(nat_lit 110, .mk (.type "tuple") (none : Option Nat) (.seq #[] 0) #[]) ::
(nat_lit 112, .mk (.type "code") (none : Option Nat) (.fields #[.str "_append_chunk" (409 : Nat), .str "_ValueFormatter._append_chunk" (410 : Nat), .str "/claim/cut.py" (411 : Nat), .int 74 (0 : Nat), .int 3 (0 : Nat), .int 0 (0 : Nat), .int 0 (0 : Nat), .int 3 (0 : Nat), .ref (107 : Nat), .bool .true, .int 276 (0 : Nat), .ref (108 : Nat), .none, .ref (109 : Nat), .ref (110 : Nat), .ref (111 : Nat), .int 420 (0 : Nat), .int 74 (0 : Nat), .str "/claim/cut.py" (421 : Nat)]) #[]) ::
(nat_lit 113, .mk (.type "function") (none : Option Nat) (.func (.mk "_append_chunk" "_ValueFormatter._append_chunk" (.mk [] [.mk "self" none (.mk 74 22 74 26), .mk "fws" none (.mk 74 28 74 31), .mk "string" none (.mk 74 33 74 39)] none [] [] none []) (.stmts b113) (.mk .function [("self", .local), ("fws", .local), ("string", .local), ("ch", .local), ("i", .local), ("prevpart", .local), ("part", .local), ("remainder", .local), ("len", .globalImplicit), ("range", .globalImplicit), ("str", .globalImplicit)] .false .false []) (3 : Nat) [] .none .none .none (.str "cpy313.email.header" (289 : Nat)) (none : Option Nat) (.ref (112 : Nat)) .none (0 : Nat))) #[]) ::
(nat_lit 114, .mk (.type "tuple") (none : Option Nat) (.seq #[.str "_continuation_ws" (423 : Nat), .str "_continuation_ws_len" (424 : Nat), .str "_current_line" (425 : Nat), .str "_lines" (426 : Nat), .str "_maxlen" (427 : Nat), .str "_splitchars" (428 : Nat)] 0) #[]) ::
(nat_lit 115, .mk (.type "dict") (none : Option Nat) (.dict #[.mk (PyData.keyHash P "__module__") (.str "__module__" (330 : Nat)) (.str "cpy313.email.header" (289 : Nat)), .mk (PyData.keyHash P "__firstlineno__") (.str "__firstlineno__" (334 : Nat)) (.int 9 (333 : Nat)), .mk (PyData.keyHash P "__init__") (.str "__init__" (345 : Nat)) (.ref (57 : Nat)), .mk (PyData.keyHash P "_str") (.str "_str" (353 : Nat)) (.ref (64 : Nat)), .mk (PyData.keyHash P "__str__") (.str "__str__" (360 : Nat)) (.ref (71 : Nat)), .mk (PyData.keyHash P "newline") (.str "newline" (368 : Nat)) (.ref (78 : Nat)), .mk (PyData.keyHash P "add_transition") (.str "add_transition" (375 : Nat)) (.ref (85 : Nat)), .mk (PyData.keyHash P "feed") (.str "feed" (389 : Nat)) (.ref (92 : Nat)), .mk (PyData.keyHash P "_maxlengths") (.str "_maxlengths" (396 : Nat)) (.ref (99 : Nat)), .mk (PyData.keyHash P "_ascii_split") (.str "_ascii_split" (408 : Nat)) (.ref (106 : Nat)), .mk (PyData.keyHash P "_append_chunk") (.str "_append_chunk" (422 : Nat)) (.ref (113 : Nat)), .mk (PyData.keyHash P "__static_attributes__") (.str "__static_attributes__" (429 : Nat)) (.ref (114 : Nat)), .mk (PyData.keyHash P "__dict__") (.str "__dict__" (431 : Nat)) (.ref (117 : Nat)), .mk (PyData.keyHash P "__weakref__") (.str "__weakref__" (433 : Nat)) (.ref (118 : Nat)), .mk (PyData.keyHash P "__doc__") (.str "__doc__" (434 : Nat)) .none] 4) #[]) ::
(nat_lit 116, .mk (.type "type") (none : Option Nat) (.cls (.mk "_ValueFormatter" [.type "object"] [.ref (116 : Nat), .type "object"] (115 : Nat) "_ValueFormatter" .true [] [] .false none .false)) #[none, none, some (.str "_ValueFormatter" (323 : Nat)), some (.str "_ValueFormatter" (331 : Nat)), some (.builtin "object.__new__"), some (.bool .true)]) ::
(nat_lit 117, .mk (.type "getset_descriptor") (none : Option Nat) (.fields #[.str "__dict__" (430 : Nat), .ref (116 : Nat), .builtin "function.__dict__", .builtin "function.__dict__#set"]) #[]) ::
(nat_lit 118, .mk (.type "getset_descriptor") (none : Option Nat) (.fields #[.str "__weakref__" (432 : Nat), .ref (116 : Nat), .builtin "ExceptionGroup.__weakref__", .none]) #[]) ::
(nat_lit 121, .mk (.type "tuple") (none : Option Nat) (.seq #[.type "list"] 0) #[]) ::
(nat_lit 124, .mk (.type "cell") (none : Option Nat) (.cell (some (.ref (200 : Nat)))) #[]) ::
(nat_lit 129, .mk (.type "tuple") (none : Option Nat) (.seq #[.int 0 (449 : Nat)] 0) #[]) ::
(nat_lit 130, .mk (.type "tuple") (none : Option Nat) (.seq #[.ref (124 : Nat)] 0) #[]) ::
(nat_lit 131, .mk (.type "tuple") (none : Option Nat) (.seq #[.str "__class__" (453 : Nat)] 0) #[]) ::
(nat_lit 133, .mk (.type "tuple") (none : Option Nat) (.seq #[.str "self" (454 : Nat), .str "initial_size" (455 : Nat)] 0) #[]) ::
(nat_lit 134, .mk (.type "tuple") (none : Option Nat) (.seq #[] 0) #[]) ::
(nat_lit 136, .mk (.type "code") (none : Option Nat) (.fields #[.str "__init__" (450 : Nat), .str "_Accumulator.__init__" (451 : Nat), .str "/claim/cut.py" (452 : Nat), .int 102 (0 : Nat), .int 2 (0 : Nat), .int 0 (0 : Nat), .int 0 (0 : Nat), .int 3 (0 : Nat), .ref (131 : Nat), .bool .true, .int 276 (0 : Nat), .ref (132 : Nat), .none, .ref (133 : Nat), .ref (134 : Nat), .ref (135 : Nat), .int 456 (0 : Nat), .int 102 (0 : Nat), .str "/claim/cut.py" (457 : Nat)]) #[]) ::
(nat_lit 137, .mk (.type "function") (none : Option Nat) (.func (.mk "__init__" "_Accumulator.__init__" (.mk [] [.mk "self" none (.mk 102 17 102 21), .mk "initial_size" none (.mk 102 23 102 35)] none [] [] none [.Constant (.int 0) 0 (.mk 102 36 102 37)]) (.stmts b137) (.mk .function [("self", .local), ("initial_size", .local), ("__class__", .free), ("super", .globalImplicit)] .false .false []) (3 : Nat) [("__class__", 124)] (.ref (129 : Nat)) .none .none (.str "cpy313.email.header" (289 : Nat)) (none : Option Nat) (.ref (136 : Nat)) (.ref (130 : Nat)) (0 : Nat))) #[]) ::
(nat_lit 138, .mk (.type "tuple") (none : Option Nat) (.seq #[] 0) #[]) ::
(nat_lit 140, .mk (.type "tuple") (none : Option Nat) (.seq #[.str "self" (462 : Nat), .str "fws" (463 : Nat), .str "string" (464 : Nat)] 0) #[]) ::
(nat_lit 141, .mk (.type "tuple") (none : Option Nat) (.seq #[] 0) #[]) ::
(nat_lit 143, .mk (.type "code") (none : Option Nat) (.fields #[.str "push" (459 : Nat), .str "_Accumulator.push" (460 : Nat), .str "/claim/cut.py" (461 : Nat), .int 106 (0 : Nat), .int 3 (0 : Nat), .int 0 (0 : Nat), .int 0 (0 : Nat), .int 3 (0 : Nat), .ref (138 : Nat), .bool .true, .int 276 (0 : Nat), .ref (139 : Nat), .none, .ref (140 : Nat), .ref (141 : Nat), .ref (142 : Nat), .int 465 (0 : Nat), .int 106 (0 : Nat), .str "/claim/cut.py" (466 : Nat)]) #[]) ::
(nat_lit 144, .mk (.type "function") (none : Option Nat) (.func (.mk "push" "_Accumulator.push" (.mk [] [.mk "self" none (.mk 106 13 106 17), .mk "fws" none (.mk 106 19 106 22), .mk "string" none (.mk 106 24 106 30)] none [] [] none []) (.stmts b144) (.mk .function [("self", .local), ("fws", .local), ("string", .local)] .false .false []) (3 : Nat) [] .none .none .none (.str "cpy313.email.header" (289 : Nat)) (none : Option Nat) (.ref (143 : Nat)) .none (0 : Nat))) #[]) ::
(nat_lit 145, .mk (.type "tuple") (none : Option Nat) (.seq #[.int 0 (468 : Nat)] 0) #[]) ::
(nat_lit 146, .mk (.type "tuple") (none : Option Nat) (.seq #[] 0) #[]) ::
(nat_lit 148, .mk (.type "tuple") (none : Option Nat) (.seq #[.str "self" (472 : Nat), .str "i" (473 : Nat), .str "popped" (474 : Nat)] 0) #[]) ::
(nat_lit 149, .mk (.type "tuple") (none : Option Nat) (.seq #[] 0) #[]) ::
(nat_lit 151, .mk (.type "code") (none : Option Nat) (.fields #[.str "pop_from" (469 : Nat), .str "_Accumulator.pop_from" (470 : Nat), .str "/claim/cut.py" (471 : Nat), .int 109 (0 : Nat), .int 2 (0 : Nat), .int 0 (0 : Nat), .int 0 (0 : Nat), .int 3 (0 : Nat), .ref (146 : Nat), .bool .true, .int 276 (0 : Nat), .ref (147 : Nat), .none, .ref (148 : Nat), .ref (149 : Nat), .ref (150 : Nat), .int 475 (0 : Nat), .int 109 (0 : Nat), .str "/claim/cut.py" (476 : Nat)]) #[]) ::
(nat_lit 152, .mk (.type "function") (none : Option Nat) (.func (.mk "pop_from" "_Accumulator.pop_from" (.mk [] [.mk "self" none (.mk 109 17 109 21), .mk "i" none (.mk 109 23 109 24)] none [] [] none [.Constant (.int 0) 0 (.mk 109 25 109 26)]) (.stmts b152) (.mk .function [("self", .local), ("i", .local), ("popped", .local)] .false .false []) (3 : Nat) [] (.ref (145 : Nat)) .none .none (.str "cpy313.email.header" (289 : Nat)) (none : Option Nat) (.ref (151 : Nat)) .none (0 : Nat))) #[]) ::
(nat_lit 153, .mk (.type "tuple") (none : Option Nat) (.seq #[.ref (124 : Nat)] 0) #[]) ::
(nat_lit 154, .mk (.type "tuple") (none : Option Nat) (.seq #[.str "__class__" (481 : Nat)] 0) #[]) ::
(nat_lit 156, .mk (.type "tuple") (none : Option Nat) (.seq #[.str "self" (482 : Nat)] 0) #[]) ::
(nat_lit 157, .mk (.type "tuple") (none : Option Nat) (.seq #[] 0) #[]) ::
(nat_lit 159, .mk (.type "code") (none : Option Nat) (.fields #[.str "pop" (478 : Nat), .str "_Accumulator.pop" (479 : Nat), .str "/claim/cut.py" (480 : Nat), .int 114 (0 : Nat), .int 1 (0 : Nat), .int 0 (0 : Nat), .int 0 (0 : Nat), .int 3 (0 : Nat), .ref (154 : Nat), .bool .true, .int 276 (0 : Nat), .ref (155 : Nat), .none, .ref (156 : Nat), .ref (157 : Nat), .ref (158 : Nat), .int 483 (0 : Nat), .int 114 (0 : Nat), .str "/claim/cut.py" (484 : Nat)]) #[]) ::
(nat_lit 160, .mk (.type "function") (none : Option Nat) (.func (.mk "pop" "_Accumulator.pop" (.mk [] [.mk "self" none (.mk 114 12 114 16)] none [] [] none []) (.stmts b160) (.mk .function [("self", .local), ("__class__", .free), ("super", .globalImplicit)] .false .false []) (3 : Nat) [("__class__", 124)] .none .none .none (.str "cpy313.email.header" (289 : Nat)) (none : Option Nat) (.ref (159 : Nat)) (.ref (153 : Nat)) (0 : Nat))) #[]) ::
(nat_lit 161, .mk (.type "tuple") (none : Option Nat) (.seq #[] 0) #[]) ::
(nat_lit 163, .mk (.type "tuple") (none : Option Nat) (.seq #[.str "self" (489 : Nat)] 0) #[]) ::
(nat_lit 164, .mk (.type "tuple") (none : Option Nat) (.seq #[] 0) #[]) ::
(nat_lit 166, .mk (.type "code") (none : Option Nat) (.fields #[.str "__len__" (486 : Nat), .str "_Accumulator.__len__" (487 : Nat), .str "/claim/cut.py" (488 : Nat), .int 119 (0 : Nat), .int 1 (0 : Nat), .int 0 (0 : Nat), .int 0 (0 : Nat), .int 3 (0 : Nat), .ref (161 : Nat), .bool .true, .int 276 (0 : Nat), .ref (162 : Nat), .none, .ref (163 : Nat), .ref (164 : Nat), .ref (165 : Nat), .int 490 (0 : Nat), .int 119 (0 : Nat), .str "/claim/cut.py" (491 : Nat)]) #[]) ::
(nat_lit 167, .mk (.type "function") (none : Option Nat) (.func (.mk "__len__" "_Accumulator.__len__" (.mk [] [.mk "self" none (.mk 119 16 119 20)] none [] [] none []) (.stmts b167) (.mk .function [("self", .local), ("sum", .globalImplicit)] .false .false []) (3 : Nat) [] .none .none .none (.str "cpy313.email.header" (289 : Nat)) (none : Option Nat) (.ref (166 : Nat)) .none (0 : Nat))) #[]) ::
(nat_lit 168, .mk (.type "tuple") (none : Option Nat) (.seq #[] 0) #[]) ::
(nat_lit 170, .mk (.type "tuple") (none : Option Nat) (.seq #[.str "self" (496 : Nat)] 0) #[]) ::
(nat_lit 171, .mk (.type "tuple") (none : Option Nat) (.seq #[] 0) #[]) ::
(nat_lit 173, .mk (.type "code") (none : Option Nat) (.fields #[.str "__str__" (493 : Nat), .str "_Accumulator.__str__" (494 : Nat), .str "/claim/cut.py" (495 : Nat), .int 122 (0 : Nat), .int 1 (0 : Nat), .int 0 (0 : Nat), .int 0 (0 : Nat), .int 3 (0 : Nat), .ref (168 : Nat), .bool .true, .int 276 (0 : Nat), .ref (169 : Nat), .none, .ref (170 : Nat), .ref (171 : Nat), .ref (172 : Nat), .int 497 (0 : Nat), .int 122 (0 : Nat), .str "/claim/cut.py" (498 : Nat)]) #[]) ::
(nat_lit 174, .mk (.type "function") (none : Option Nat) (.func (.mk "__str__" "_Accumulator.__str__" (.mk [] [.mk "self" none (.mk 122 16 122 20)] none [] [] none []) (.stmts b174) (.mk .function [("self", .local), ("EMPTYSTRING", .globalImplicit)] .false .false []) (3 : Nat) [] .none .none .none (.str "cpy313.email.header" (289 : Nat)) (none : Option Nat) (.ref (173 : Nat)) .none (0 : Nat))) #[]) ::
(nat_lit 175, .mk (.type "tuple") (none : Option Nat) (.seq #[.none] 0) #[]) ::
(nat_lit 176, .mk (.type "tuple") (none : Option Nat) (.seq #[] 0) #[]) ::
(nat_lit 178, .mk (.type "tuple") (none : Option Nat) (.seq #[.str "self" (503 : Nat), .str "startval" (504 : Nat)] 0) #[]) ::
(nat_lit 179, .mk (.type "tuple") (none : Option Nat) (.seq #[] 0) #[]) ::
(nat_lit 181, .mk (.type "code") (none : Option Nat) (.fields #[.str "reset" (500 : Nat), .str "_Accumulator.reset" (501 : Nat), .str "/claim/cut.py" (502 : Nat), .int 125 (0 : Nat), .int 2 (0 : Nat), .int 0 (0 : Nat), .int 0 (0 : Nat), .int 3 (0 : Nat), .ref (176 : Nat), .bool .true, .int 276 (0 : Nat), .ref (177 : Nat), .none, .ref (178 : Nat), .ref (179 : Nat), .ref (180 : Nat), .int 505 (0 : Nat), .int 125 (0 : Nat), .str "/claim/cut.py" (506 : Nat)]) #[]) ::
(nat_lit 182, .mk (.type "function") (none : Option Nat) (.func (.mk "reset" "_Accumulator.reset" (.mk [] [.mk "self" none (.mk 125 14 125 18), .mk "startval" none (.mk 125 20 125 28)] none [] [] none [.Constant .none 0 (.mk 125 29 125 33)]) (.stmts b182) (.mk .function [("self", .local), ("startval", .local)] .false .false []) (3 : Nat) [] (.ref (175 : Nat)) .none .none (.str "cpy313.email.header" (289 : Nat)) (none : Option Nat) (.ref (181 : Nat)) .none (0 : Nat))) #[]) ::
(nat_lit 183, .mk (.type "tuple") (none : Option Nat) (.seq #[] 0) #[]) ::
(nat_lit 185, .mk (.type "tuple") (none : Option Nat) (.seq #[.str "self" (511 : Nat)] 0) #[]) ::
(nat_lit 186, .mk (.type "tuple") (none : Option Nat) (.seq #[] 0) #[]) ::
(nat_lit 188, .mk (.type "code") (none : Option Nat) (.fields #[.str "is_onlyws" (508 : Nat), .str "_Accumulator.is_onlyws" (509 : Nat), .str "/claim/cut.py" (510 : Nat), .int 131 (0 : Nat), .int 1 (0 : Nat), .int 0 (0 : Nat), .int 0 (0 : Nat), .int 3 (0 : Nat), .ref (183 : Nat), .bool .true, .int 276 (0 : Nat), .ref (184 : Nat), .none, .ref (185 : Nat), .ref (186 : Nat), .ref (187 : Nat), .int 512 (0 : Nat), .int 131 (0 : Nat), .str "/claim/cut.py" (513 : Nat)]) #[]) ::
(nat_lit 189, .mk (.type "function") (none : Option Nat) (.func (.mk "is_onlyws" "_Accumulator.is_onlyws" (.mk [] [.mk "self" none (.mk 131 18 131 22)] none [] [] none []) (.stmts b189) (.mk .function [("self", .local), ("str", .globalImplicit)] .false .false []) (3 : Nat) [] .none .none .none (.str "cpy313.email.header" (289 : Nat)) (none : Option Nat) (.ref (188 : Nat)) .none (0 : Nat))) #[]) ::
(nat_lit 190, .mk (.type "tuple") (none : Option Nat) (.seq #[.ref (124 : Nat)] 0) #[]) ::
(nat_lit 191, .mk (.type "tuple") (none : Option Nat) (.seq #[.str "__class__" (518 : Nat)] 0) #[]) ::
(nat_lit 193, .mk (.type "tuple") (none : Option Nat) (.seq #[.str "self" (519 : Nat)] 0) #[]) ::
(nat_lit 194, .mk (.type "tuple") (none : Option Nat) (.seq #[] 0) #[]) ::
(nat_lit 196, .mk (.type "code") (none : Option Nat) (.fields #[.str "part_count" (515 : Nat), .str "_Accumulator.part_count" (516 : Nat), .str "/claim/cut.py" (517 : Nat), .int 134 (0 : Nat), .int 1 (0 : Nat), .int 0 (0 : Nat), .int 0 (0 : Nat), .int 3 (0 : Nat), .ref (191 : Nat), .bool .true, .int 276 (0 : Nat), .ref (192 : Nat), .none, .ref (193 : Nat), .ref (194 : Nat), .ref (195 : Nat), .int 520 (0 : Nat), .int 134 (0 : Nat), .str "/claim/cut.py" (521 : Nat)]) #[]) ::
(nat_lit 197, .mk (.type "function") (none : Option Nat) (.func (.mk "part_count" "_Accumulator.part_count" (.mk [] [.mk "self" none (.mk 134 19 134 23)] none [] [] none []) (.stmts b197) (.mk .function [("self", .local), ("__class__", .free), ("super", .globalImplicit)] .false .false []) (3 : Nat) [("__class__", 124)] .none .none .none (.str "cpy313.email.header" (289 : Nat)) (none : Option Nat) (.ref (196 : Nat)) (.ref (190 : Nat)) (0 : Nat))) #[]) ::
(nat_lit 198, .mk (.type "tuple") (none : Option Nat) (.seq #[.str "_initial_size" (523 : Nat)] 0) #[]) ::
(nat_lit 199, .mk (.type "dict") (none : Option Nat) (.dict #[.mk (PyData.keyHash P "__module__") (.str "__module__" (444 : Nat)) (.str "cpy313.email.header" (289 : Nat)), .mk (PyData.keyHash P "__firstlineno__") (.str "__firstlineno__" (448 : Nat)) (.int 100 (447 : Nat)), .mk (PyData.keyHash P "__init__") (.str "__init__" (458 : Nat)) (.ref (137 : Nat)), .mk (PyData.keyHash P "push") (.str "push" (467 : Nat)) (.ref (144 : Nat)), .mk (PyData.keyHash P "pop_from") (.str "pop_from" (477 : Nat)) (.ref (152 : Nat)), .mk (PyData.keyHash P "pop") (.str "pop" (485 : Nat)) (.ref (160 : Nat)), .mk (PyData.keyHash P "__len__") (.str "__len__" (492 : Nat)) (.ref (167 : Nat)), .mk (PyData.keyHash P "__str__") (.str "__str__" (499 : Nat)) (.ref (174 : Nat)), .mk (PyData.keyHash P "reset") (.str "reset" (507 : Nat)) (.ref (182 : Nat)), .mk (PyData.keyHash P "is_onlyws") (.str "is_onlyws" (514 : Nat)) (.ref (189 : Nat)), .mk (PyData.keyHash P "part_count") (.str "part_count" (522 : Nat)) (.ref (197 : Nat)), .mk (PyData.keyHash P "__static_attributes__") (.str "__static_attributes__" (524 : Nat)) (.ref (198 : Nat)), .mk (PyData.keyHash P "__dict__") (.str "__dict__" (527 : Nat)) (.ref (201 : Nat)), .mk (PyData.keyHash P "__weakref__") (.str "__weakref__" (529 : Nat)) (.ref (202 : Nat)), .mk (PyData.keyHash P "__doc__") (.str "__doc__" (530 : Nat)) .none] 5) #[]) ::
(nat_lit 200, .mk (.type "type") (none : Option Nat) (.cls (.mk "_Accumulator" [.type "list"] [.ref (200 : Nat), .type "list", .type "object"] (199 : Nat) "_Accumulator" .true [] [] .false none .false)) #[some (.ref (121 : Nat)), none, some (.str "_Accumulator" (437 : Nat)), some (.str "_Accumulator" (445 : Nat)), some (.builtin "list.__new__"), some (.bool .true)]) ::
(nat_lit 201, .mk (.type "getset_descriptor") (none : Option Nat) (.fields #[.str "__dict__" (526 : Nat), .ref (200 : Nat), .builtin "function.__dict__", .builtin "function.__dict__#set"]) #[]) ::
(nat_lit 202, .mk (.type "getset_descriptor") (none : Option Nat) (.fields #[.str "__weakref__" (528 : Nat), .ref (200 : Nat), .builtin "ExceptionGroup.__weakref__", .none]) #[]) ::
(nat_lit 205, .mk (.type "tuple") (none : Option Nat) (.seq #[.type "Exception"] 0) #[]) ::
(nat_lit 212, .mk (.type "tuple") (none : Option Nat) (.seq #[] 0) #[]) ::
(nat_lit 213, .mk (.type "dict") (none : Option Nat) (.dict #[.mk (PyData.keyHash P "__module__") (.str "__module__" (542 : Nat)) (.str "cpy313.ftplib" (533 : Nat)), .mk (PyData.keyHash P "__firstlineno__") (.str "__firstlineno__" (546 : Nat)) (.int 137 (545 : Nat)), .mk (PyData.keyHash P "__static_attributes__") (.str "__static_attributes__" (547 : Nat)) (.ref (212 : Nat)), .mk (PyData.keyHash P "__weakref__") (.str "__weakref__" (549 : Nat)) (.ref (215 : Nat)), .mk (PyData.keyHash P "__doc__") (.str "__doc__" (550 : Nat)) .none] 3) #[]) ::
(nat_lit 214, .mk (.type "type") (none : Option Nat) (.cls (.mk "Error" [.type "Exception"] [.ref (214 : Nat), .type "Exception", .type "BaseException", .type "object"] (213 : Nat) "Error" .true [] [.ref (227 : Nat), .ref (239 : Nat)] .false none .false)) #[some (.ref (205 : Nat)), none, some (.str "Error" (535 : Nat)), some (.str "Error" (543 : Nat)), some (.builtin "Exception.__new__"), some (.bool .true)]) ::
(nat_lit 215, .mk (.type "getset_descriptor") (none : Option Nat) (.fields #[.str "__weakref__" (548 : Nat), .ref (214 : Nat), .builtin "ExceptionGroup.__weakref__", .none]) #[]) ::
(nat_lit 218, .mk (.type "tuple") (none : Option Nat) (.seq #[.ref (214 : Nat)] 0) #[]) ::
(nat_lit 225, .mk (.type "tuple") (none : Option Nat) (.seq #[] 0) #[]) ::
(nat_lit 226, .mk (.type "dict") (none : Option Nat) (.dict #[.mk (PyData.keyHash P "__module__") (.str "__module__" (562 : Nat)) (.str "cpy313.ftplib" (533 : Nat)), .mk (PyData.keyHash P "__firstlineno__") (.str "__firstlineno__" (566 : Nat)) (.int 139 (565 : Nat)), .mk (PyData.keyHash P "__static_attributes__") (.str "__static_attributes__" (567 : Nat)) (.ref (225 : Nat)), .mk (PyData.keyHash P "__doc__") (.str "__doc__" (568 : Nat)) .none] 2) #[]) ::
(nat_lit 227, .mk (.type "type") (none : Option Nat) (.cls (.mk "error_reply" [.ref (214 : Nat)] [.ref (227 : Nat), .ref (214 : Nat), .type "Exception", .type "BaseException", .type "object"] (226 : Nat) "error_reply" .true [] [] .false none .false)) #[some (.ref (218 : Nat)), none, some (.str "error_reply" (555 : Nat)), some (.str "error_reply" (563 : Nat)), some (.builtin "Exception.__new__"), some (.bool .true)]) ::
(nat_lit 230, .mk (.type "tuple") (none : Option Nat) (.seq #[.ref (214 : Nat)] 0) #[]) ::
(nat_lit 237, .mk (.type "tuple") (none : Option Nat) (.seq #[] 0) #[]) ::
(nat_lit 238, .mk (.type "dict") (none : Option Nat) (.dict #[.mk (PyData.keyHash P "__module__") (.str "__module__" (578 : Nat)) (.str "cpy313.ftplib" (533 : Nat)), .mk (PyData.keyHash P "__firstlineno__") (.str "__firstlineno__" (582 : Nat)) (.int 141 (581 : Nat)), .mk (PyData.keyHash P "__static_attributes__") (.str "__static_attributes__" (583 : Nat)) (.ref (237 : Nat)), .mk (PyData.keyHash P "__doc__") (.str "__doc__" (584 : Nat)) .none] 2) #[]) ::
(nat_lit 239, .mk (.type "type") (none : Option Nat) (.cls (.mk "error_proto" [.ref (214 : Nat)] [.ref (239 : Nat), .ref (214 : Nat), .type "Exception", .type "BaseException", .type "object"] (238 : Nat) "error_proto" .true [] [] .false none .false)) #[some (.ref (230 : Nat)), none, some (.str "error_proto" (571 : Nat)), some (.str "error_proto" (579 : Nat)), some (.builtin "Exception.__new__"), some (.bool .true)]) ::
(nat_lit 242, .mk (.type "tuple") (none : Option Nat) (.seq #[] 0) #[]) ::
(nat_lit 244, .mk (.type "tuple") (none : Option Nat) (.seq #[.str "resp" (590 : Nat), .str "peer" (591 : Nat), .str "left" (592 : Nat), .str "right" (593 : Nat), .str "parts" (594 : Nat), .str "host" (595 : Nat), .str "port" (596 : Nat)] 0) #[]) ::
(nat_lit 245, .mk (.type "tuple") (none : Option Nat) (.seq #[] 0) #[]) ::
(nat_lit 247, .mk (.type "code") (none : Option Nat) (.fields #[.str "parse229" (587 : Nat), .str "parse229" (588 : Nat), .str "/claim/cut.py" (589 : Nat), .int 143 (0 : Nat), .int 2 (0 : Nat), .int 0 (0 : Nat), .int 0 (0 : Nat), .int 3 (0 : Nat), .ref (242 : Nat), .bool .true, .int 276 (0 : Nat), .ref (243 : Nat), .none, .ref (244 : Nat), .ref (245 : Nat), .ref (246 : Nat), .int 597 (0 : Nat), .int 143 (0 : Nat), .str "/claim/cut.py" (598 : Nat)]) #[]) ::
(nat_lit 248, .mk (.type "function") (none : Option Nat) (.func (.mk "parse229" "parse229" (.mk [] [.mk "resp" none (.mk 143 13 143 17), .mk "peer" none (.mk 143 19 143 23)] none [] [] none []) (.stmts b248) (.mk .function [("resp", .local), ("peer", .local), ("left", .local), ("right", .local), ("parts", .local), ("host", .local), ("port", .local), ("error_reply", .globalImplicit), ("error_proto", .globalImplicit), ("len", .globalImplicit), ("int", .globalImplicit)] .false .false []) (3 : Nat) [] .none .none .none (.str "cpy313.ftplib" (533 : Nat)) (none : Option Nat) (.ref (247 : Nat)) .none (0 : Nat))) #[]) ::
(nat_lit 249, .mk (.type "tuple") (none : Option Nat) (.seq #[] 0) #[]) ::
(nat_lit 251, .mk (.type "tuple") (none : Option Nat) (.seq #[.str "resp" (603 : Nat), .str "dirname" (604 : Nat), .str "i" (605 : Nat), .str "n" (606 : Nat), .str "c" (607 : Nat)] 0) #[]) ::
(nat_lit 252, .mk (.type "tuple") (none : Option Nat) (.seq #[] 0) #[]) ::
(nat_lit 254, .mk (.type "code") (none : Option Nat) (.fields #[.str "parse257" (600 : Nat), .str "parse257" (601 : Nat), .str "/claim/cut.py" (602 : Nat), .int 160 (0 : Nat), .int 1 (0 : Nat), .int 0 (0 : Nat), .int 0 (0 : Nat), .int 3 (0 : Nat), .ref (249 : Nat), .bool .true, .int 276 (0 : Nat), .ref (250 : Nat), .none, .ref (251 : Nat), .ref (252 : Nat), .ref (253 : Nat), .int 608 (0 : Nat), .int 160 (0 : Nat), .str "/claim/cut.py" (609 : Nat)]) #[]) ::
(nat_lit 255, .mk (.type "function") (none : Option Nat) (.func (.mk "parse257" "parse257" (.mk [] [.mk "resp" none (.mk 160 13 160 17)] none [] [] none []) (.stmts b255) (.mk .function [("resp", .local), ("dirname", .local), ("i", .local), ("n", .local), ("c", .local), ("error_reply", .globalImplicit), ("len", .globalImplicit)] .false .false []) (3 : Nat) [] .none .none .none (.str "cpy313.ftplib" (533 : Nat)) (none : Option Nat) (.ref (254 : Nat)) .none (0 : Nat))) #[]) ::
(nat_lit 256, .mk (.type "tuple") (none : Option Nat) (.seq #[] 0) #[]) ::
(nat_lit 258, .mk (.type "tuple") (none : Option Nat) (.seq #[.str "a" (616 : Nat), .str "b" (617 : Nat)] 0) #[]) ::
(nat_lit 259, .mk (.type "tuple") (none : Option Nat) (.seq #[] 0) #[]) ::
(nat_lit 261, .mk (.type "code") (none : Option Nat) (.fields #[.str "_strcoll" (613 : Nat), .str "_strcoll" (614 : Nat), .str "/claim/cut.py" (615 : Nat), .int 178 (0 : Nat), .int 2 (0 : Nat), .int 0 (0 : Nat), .int 0 (0 : Nat), .int 3 (0 : Nat), .ref (256 : Nat), .bool .true, .int 276 (0 : Nat), .ref (257 : Nat), .none, .ref (258 : Nat), .ref (259 : Nat), .ref (260 : Nat), .int 618 (0 : Nat), .int 178 (0 : Nat), .str "/claim/cut.py" (619 : Nat)]) #[]) ::
(nat_lit 262, .mk (.type "function") (none : Option Nat) (.func (.mk "_strcoll" "_strcoll" (.mk [] [.mk "a" none (.mk 178 13 178 14), .mk "b" none (.mk 178 16 178 17)] none [] [] none []) (.stmts b262) (.mk .function [("a", .local), ("b", .local)] .false .false []) (3 : Nat) [] .none .none .none (.str "cpy313.locale" (611 : Nat)) (none : Option Nat) (.ref (261 : Nat)) .none (0 : Nat))) #[]) ::
(nat_lit 270, .mk (.type "tuple") (none : Option Nat) (.seq #[] 0) #[]) ::
(nat_lit 272, .mk (.type "tuple") (none : Option Nat) (.seq #[.str "self" (638 : Nat), .str "fp" (639 : Nat)] 0) #[]) ::
(nat_lit 273, .mk (.type "tuple") (none : Option Nat) (.seq #[] 0) #[]) ::
(nat_lit 275, .mk (.type "code") (none : Option Nat) (.fields #[.str "__init__" (635 : Nat), .str "_netrclex.__init__" (636 : Nat), .str "/claim/cut.py" (637 : Nat), .int 183 (0 : Nat), .int 2 (0 : Nat), .int 0 (0 : Nat), .int 0 (0 : Nat), .int 3 (0 : Nat), .ref (270 : Nat), .bool .true, .int 276 (0 : Nat), .ref (271 : Nat), .none, .ref (272 : Nat), .ref (273 : Nat), .ref (274 : Nat), .int 640 (0 : Nat), .int 183 (0 : Nat), .str "/claim/cut.py" (641 : Nat)]) #[]) ::
(nat_lit 276, .mk (.type "function") (none : Option Nat) (.func (.mk "__init__" "_netrclex.__init__" (.mk [] [.mk "self" none (.mk 183 17 183 21), .mk "fp" none (.mk 183 23 183 25)] none [] [] none []) (.stmts b276) (.mk .function [("self", .local), ("fp", .local)] .false .false []) (3 : Nat) [] .none .none .none (.str "cpy313.netrc" (621 : Nat)) (none : Option Nat) (.ref (275 : Nat)) .none (0 : Nat))) #[]) ::
(nat_lit 277, .mk (.type "tuple") (none : Option Nat) (.seq #[] 0) #[]) ::
(nat_lit 279, .mk (.type "tuple") (none : Option Nat) (.seq #[.str "self" (646 : Nat), .str "ch" (647 : Nat)] 0) #[]) ::
(nat_lit 280, .mk (.type "tuple") (none : Option Nat) (.seq #[] 0) #[]) ::
(nat_lit 282, .mk (.type "code") (none : Option Nat) (.fields #[.str "_read_char" (643 : Nat), .str "_netrclex._read_char" (644 : Nat), .str "/claim/cut.py" (645 : Nat), .int 189 (0 : Nat), .int 1 (0 : Nat), .int 0 (0 : Nat), .int 0 (0 : Nat), .int 3 (0 : Nat), .ref (277 : Nat), .bool .true, .int 276 (0 : Nat), .ref (278 : Nat), .none, .ref (279 : Nat), .ref (280 : Nat), .ref (281 : Nat), .int 648 (0 : Nat), .int 189 (0 : Nat), .str "/claim/cut.py" (649 : Nat)]) #[]) ::
(nat_lit 283, .mk (.type "function") (none : Option Nat) (.func (.mk "_read_char" "_netrclex._read_char" (.mk [] [.mk "self" none (.mk 189 19 189 23)] none [] [] none []) (.stmts b283) (.mk .function [("self", .local), ("ch", .local)] .false .false []) (3 : Nat) [] .none .none .none (.str "cpy313.netrc" (621 : Nat)) (none : Option Nat) (.ref (282 : Nat)) .none (0 : Nat))) #[]) ::
(nat_lit 284, .mk (.type "tuple") (none : Option Nat) (.seq #[] 0) #[]) ::
(nat_lit 286, .mk (.type "tuple") (none : Option Nat) (.seq #[.str "self" (654 : Nat), .str "token" (655 : Nat), .str "fiter" (656 : Nat), .str "ch" (657 : Nat)] 0) #[]) ::
(nat_lit 287, .mk (.type "tuple") (none : Option Nat) (.seq #[] 0) #[]) ::
(nat_lit 289, .mk (.type "code") (none : Option Nat) (.fields #[.str "get_token" (651 : Nat), .str "_netrclex.get_token" (652 : Nat), .str "/claim/cut.py" (653 : Nat), .int 195 (0 : Nat), .int 1 (0 : Nat), .int 0 (0 : Nat), .int 0 (0 : Nat), .int 3 (0 : Nat), .ref (284 : Nat), .bool .true, .int 276 (0 : Nat), .ref (285 : Nat), .none, .ref (286 : Nat), .ref (287 : Nat), .ref (288 : Nat), .int 658 (0 : Nat), .int 195 (0 : Nat), .str "/claim/cut.py" (659 : Nat)]) #[]) ::
(nat_lit 290, .mk (.type "function") (none : Option Nat) (.func (.mk "get_token" "_netrclex.get_token" (.mk [] [.mk "self" none (.mk 195 18 195 22)] none [] [] none []) (.stmts b290) (.mk .function [("self", .local), ("token", .local), ("fiter", .local), ("ch", .local), ("iter", .globalImplicit)] .false .false []) (3 : Nat) [] .none .none .none (.str "cpy313.netrc" (621 : Nat)) (none : Option Nat) (.ref (289 : Nat)) .none (0 : Nat))) #[]) ::
(nat_lit 291, .mk (.type "tuple") (none : Option Nat) (.seq #[] 0) #[]) ::
(nat_lit 293, .mk (.type "tuple") (none : Option Nat) (.seq #[.str "self" (664 : Nat), .str "token" (665 : Nat)] 0) #[]) ::
(nat_lit 294, .mk (.type "tuple") (none : Option Nat) (.seq #[] 0) #[]) ::
(nat_lit 296, .mk (.type "code") (none : Option Nat) (.fields #[.str "push_token" (661 : Nat), .str "_netrclex.push_token" (662 : Nat), .str "/claim/cut.py" (663 : Nat), .int 222 (0 : Nat), .int 2 (0 : Nat), .int 0 (0 : Nat), .int 0 (0 : Nat), .int 3 (0 : Nat), .ref (291 : Nat), .bool .true, .int 276 (0 : Nat), .ref (292 : Nat), .none, .ref (293 : Nat), .ref (294 : Nat), .ref (295 : Nat), .int 666 (0 : Nat), .int 222 (0 : Nat), .str "/claim/cut.py" (667 : Nat)]) #[]) ::
(nat_lit 297, .mk (.type "function") (none : Option Nat) (.func (.mk "push_token" "_netrclex.push_token" (.mk [] [.mk "self" none (.mk 222 19 222 23), .mk "token" none (.mk 222 25 222 30)] none [] [] none []) (.stmts b297) (.mk .function [("self", .local), ("token", .local), ("_wall", .globalImplicit)] .false .false []) (3 : Nat) [] .none .none .none (.str "cpy313.netrc" (621 : Nat)) (none : Option Nat) (.ref (296 : Nat)) .none (0 : Nat))) #[]) ::
(nat_lit 298, .mk (.type "tuple") (none : Option Nat) (.seq #[.str "instream" (669 : Nat), .str "lineno" (670 : Nat), .str "pushback" (671 : Nat), .str "whitespace" (672 : Nat)] 0) #[]) ::
(nat_lit 299, .mk (.type "dict") (none : Option Nat) (.dict #[.mk (PyData.keyHash P "__module__") (.str "__module__" (630 : Nat)) (.str "cpy313.netrc" (621 : Nat)), .mk (PyData.keyHash P "__firstlineno__") (.str "__firstlineno__" (634 : Nat)) (.int 181 (633 : Nat)), .mk (PyData.keyHash P "__init__") (.str "__init__" (642 : Nat)) (.ref (276 : Nat)), .mk (PyData.keyHash P "_read_char") (.str "_read_char" (650 : Nat)) (.ref (283 : Nat)), .mk (PyData.keyHash P "get_token") (.str "get_token" (660 : Nat)) (.ref (290 : Nat)), .mk (PyData.keyHash P "push_token") (.str "push_token" (668 : Nat)) (.ref (297 : Nat)), .mk (PyData.keyHash P "__static_attributes__") (.str "__static_attributes__" (673 : Nat)) (.ref (298 : Nat)), .mk (PyData.keyHash P "__dict__") (.str "__dict__" (675 : Nat)) (.ref (301 : Nat)), .mk (PyData.keyHash P "__weakref__") (.str "__weakref__" (677 : Nat)) (.ref (302 : Nat)), .mk (PyData.keyHash P "__doc__") (.str "__doc__" (678 : Nat)) .none] 4) #[]) ::
(nat_lit 300, .mk (.type "type") (none : Option Nat) (.cls (.mk "_netrclex" [.type "object"] [.ref (300 : Nat), .type "object"] (299 : Nat) "_netrclex" .true [] [] .false none .false)) #[none, none, some (.str "_netrclex" (623 : Nat)), some (.str "_netrclex" (631 : Nat)), some (.builtin "object.__new__"), some (.bool .true)]) ::
(nat_lit 301, .mk (.type "getset_descriptor") (none : Option Nat) (.fields #[.str "__dict__" (674 : Nat), .ref (300 : Nat), .builtin "function.__dict__", .builtin "function.__dict__#set"]) #[]) ::
(nat_lit 302, .mk (.type "getset_descriptor") (none : Option Nat) (.fields #[.str "__weakref__" (676 : Nat), .ref (300 : Nat), .builtin "ExceptionGroup.__weakref__", .none]) #[]) ::
(nat_lit 305, .mk (.type "tuple") (none : Option Nat) (.seq #[] 0) #[]) ::
(nat_lit 307, .mk (.type "tuple") (none : Option Nat) (.seq #[.str "text" (686 : Nat), .str "feed" (687 : Nat)] 0) #[]) ::
(nat_lit 308, .mk (.type "tuple") (none : Option Nat) (.seq #[.str "signs" (688 : Nat)] 0) #[]) ::
(nat_lit 310, .mk (.type "code") (none : Option Nat) (.fields #[.str "_law_lexer" (683 : Nat), .str "_law_lexer" (684 : Nat), .str "/claim/cut.py" (685 : Nat), .int 225 (0 : Nat), .int 1 (0 : Nat), .int 0 (0 : Nat), .int 0 (0 : Nat), .int 3 (0 : Nat), .ref (305 : Nat), .bool .true, .int 276 (0 : Nat), .ref (306 : Nat), .none, .ref (307 : Nat), .ref (308 : Nat), .ref (309 : Nat), .int 689 (0 : Nat), .int 225 (0 : Nat), .str "/claim/cut.py" (690 : Nat)]) #[]) ::
(nat_lit 311, .mk (.type "function") (none : Option Nat) (.func (.mk "_law_lexer" "_law_lexer" (.mk [] [.mk "text" none (.mk 225 15 225 19)] none [] [] none []) (.stmts b311) (.mk .function [("text", .local), ("feed", .local), ("signs", .cell), ("list", .globalImplicit), ("_netrclex", .globalImplicit)] .false .false []) (3 : Nat) [] .none .none .none (.str "law_wu0089_01" (681 : Nat)) (none : Option Nat) (.ref (310 : Nat)) .none (0 : Nat))) #[]) ::
(nat_lit 312, .mk (.type "tuple") (none : Option Nat) (.seq #[] 0) #[]) ::
(nat_lit 315, .mk (.type "code") (none : Option Nat) (.fields #[.str "_law_operand" (692 : Nat), .str "_law_operand" (693 : Nat), .str "/claim/cut.py" (694 : Nat), .int 230 (0 : Nat), .int 1 (0 : Nat), .int 0 (0 : Nat), .int 0 (0 : Nat), .int 3 (0 : Nat), .ref (312 : Nat), .bool .true, .int 276 (0 : Nat), .ref (313 : Nat), .none, .none, .none, .ref (314 : Nat), .int 695 (0 : Nat), .int 230 (0 : Nat), .str "/claim/cut.py" (696 : Nat)]) #[]) ::
(nat_lit 316, .mk (.type "function") (none : Option Nat) (.func (.mk "_law_operand" "_law_operand" (.mk [] [.mk "x" none (.mk 230 17 230 18)] none [] [] none []) (.stmts b316) (.mk .function [("x", .local), ("q", .cell), ("value", .local), ("mark", .local), ("reply", .local), ("hidden", .local), ("str", .globalImplicit), ("range", .globalImplicit)] .false .false [("fast", .str "x"), ("fast", .str "q"), ("fast", .str "value"), ("fast", .str "mark"), ("fast", .str "reply"), ("fast", .str "k"), ("fast", .str "hidden")]) (3 : Nat) [] .none .none .none (.str "law_wu0089_01" (681 : Nat)) (none : Option Nat) (.ref (315 : Nat)) .none (0 : Nat))) #[]) ::
(nat_lit 317, .mk (.type "tuple") (none : Option Nat) (.seq #[] 0) #[]) ::
(nat_lit 319, .mk (.type "tuple") (none : Option Nat) (.seq #[.str "tree" (701 : Nat), .str "path" (702 : Nat), .str "words" (703 : Nat), .str "told" (704 : Nat), .str "side" (705 : Nat), .str "part" (706 : Nat), .str "way" (707 : Nat), .str "inner" (708 : Nat), .str "named" (709 : Nat)] 0) #[]) ::
(nat_lit 320, .mk (.type "tuple") (none : Option Nat) (.seq #[] 0) #[]) ::
(nat_lit 322, .mk (.type "code") (none : Option Nat) (.fields #[.str "_law_tell" (698 : Nat), .str "_law_tell" (699 : Nat), .str "/claim/cut.py" (700 : Nat), .int 243 (0 : Nat), .int 2 (0 : Nat), .int 0 (0 : Nat), .int 0 (0 : Nat), .int 3 (0 : Nat), .ref (317 : Nat), .bool .true, .int 276 (0 : Nat), .ref (318 : Nat), .none, .ref (319 : Nat), .ref (320 : Nat), .ref (321 : Nat), .int 710 (0 : Nat), .int 243 (0 : Nat), .str "/claim/cut.py" (711 : Nat)]) #[]) ::
(nat_lit 323, .mk (.type "function") (none : Option Nat) (.func (.mk "_law_tell" "_law_tell" (.mk [] [.mk "tree" none (.mk 243 14 243 18), .mk "path" none (.mk 243 20 243 24)] none [] [] none []) (.stmts b323) (.mk .function [("tree", .local), ("path", .local), ("words", .local), ("told", .local), ("side", .local), ("part", .local), ("way", .local), ("inner", .local), ("named", .local), ("len", .globalImplicit), ("_law_tell", .globalImplicit)] .false .false []) (3 : Nat) [] .none .none .none (.str "law_wu0089_01" (681 : Nat)) (none : Option Nat) (.ref (322 : Nat)) .none (0 : Nat))) #[]) ::
(nat_lit 324, .mk (.type "tuple") (none : Option Nat) (.seq #[] 0) #[]) ::
(nat_lit 326, .mk (.type "tuple") (none : Option Nat) (.seq #[.str "words" (716 : Nat), .str "width" (717 : Nat), .str "ends" (718 : Nat), .str "row" (719 : Nat), .str "used" (720 : Nat), .str "k" (721 : Nat)] 0) #[]) ::
(nat_lit 327, .mk (.type "tuple") (none : Option Nat) (.seq #[] 0) #[]) ::
(nat_lit 329, .mk (.type "code") (none : Option Nat) (.fields #[.str "_law_ends" (713 : Nat), .str "_law_ends" (714 : Nat), .str "/claim/cut.py" (715 : Nat), .int 259 (0 : Nat), .int 2 (0 : Nat), .int 0 (0 : Nat), .int 0 (0 : Nat), .int 3 (0 : Nat), .ref (324 : Nat), .bool .true, .int 276 (0 : Nat), .ref (325 : Nat), .none, .ref (326 : Nat), .ref (327 : Nat), .ref (328 : Nat), .int 722 (0 : Nat), .int 259 (0 : Nat), .str "/claim/cut.py" (723 : Nat)]) #[]) ::
(nat_lit 330, .mk (.type "function") (none : Option Nat) (.func (.mk "_law_ends" "_law_ends" (.mk [] [.mk "words" none (.mk 259 14 259 19), .mk "width" none (.mk 259 21 259 26)] none [] [] none []) (.stmts b330) (.mk .function [("words", .local), ("width", .local), ("ends", .local), ("row", .local), ("used", .local), ("k", .local), ("range", .globalImplicit), ("len", .globalImplicit)] .false .false []) (3 : Nat) [] .none .none .none (.str "law_wu0089_01" (681 : Nat)) (none : Option Nat) (.ref (329 : Nat)) .none (0 : Nat))) #[]) ::
(nat_lit 331, .mk (.type "tuple") (none : Option Nat) (.seq #[] 0) #[]) ::
(nat_lit 333, .mk (.type "tuple") (none : Option Nat) (.seq #[.str "lexer" (728 : Nat), .str "pile" (729 : Nat), .str "told" (730 : Nat), .str "ends" (731 : Nat), .str "word" (732 : Nat), .str "top" (733 : Nat)] 0) #[]) ::
(nat_lit 334, .mk (.type "tuple") (none : Option Nat) (.seq #[] 0) #[]) ::
(nat_lit 336, .mk (.type "code") (none : Option Nat) (.fields #[.str "_law_read" (725 : Nat), .str "_law_read" (726 : Nat), .str "/claim/cut.py" (727 : Nat), .int 272 (0 : Nat), .int 1 (0 : Nat), .int 0 (0 : Nat), .int 0 (0 : Nat), .int 3 (0 : Nat), .ref (331 : Nat), .bool .true, .int 276 (0 : Nat), .ref (332 : Nat), .none, .ref (333 : Nat), .ref (334 : Nat), .ref (335 : Nat), .int 734 (0 : Nat), .int 272 (0 : Nat), .str "/claim/cut.py" (735 : Nat)]) #[]) ::
(nat_lit 337, .mk (.type "function") (none : Option Nat) (.func (.mk "_law_read" "_law_read" (.mk [] [.mk "lexer" none (.mk 272 14 272 19)] none [] [] none []) (.stmts b337) (.mk .function [("lexer", .local), ("pile", .local), ("told", .local), ("ends", .local), ("word", .local), ("top", .local), ("_Accumulator", .globalImplicit), ("parse229", .globalImplicit), ("str", .globalImplicit), ("parse257", .globalImplicit), ("_strcoll", .globalImplicit)] .false .false []) (3 : Nat) [] .none .none .none (.str "law_wu0089_01" (681 : Nat)) (none : Option Nat) (.ref (336 : Nat)) .none (0 : Nat))) #[]) ::
(nat_lit 338, .mk (.type "tuple") (none : Option Nat) (.seq #[] 0) #[]) ::
(nat_lit 341, .mk (.type "code") (none : Option Nat) (.fields #[.str "law" (737 : Nat), .str "law" (738 : Nat), .str "/claim/cut.py" (739 : Nat), .int 295 (0 : Nat), .int 1 (0 : Nat), .int 0 (0 : Nat), .int 0 (0 : Nat), .int 3 (0 : Nat), .ref (338 : Nat), .bool .true, .int 276 (0 : Nat), .ref (339 : Nat), .none, .none, .none, .ref (340 : Nat), .int 740 (0 : Nat), .int 295 (0 : Nat), .str "/claim/cut.py" (741 : Nat)]) #[]) ::
(nat_lit 342, .mk (.type "function") (none : Option Nat) (.func (.mk "law" "law" (.mk [] [.mk "script" none (.mk 295 8 295 14)] none [] [] none []) (.stmts b342) (.mk .function [("script", .cell), ("seeds", .cell), ("k", .local), ("cells", .local), ("parts", .local), ("rest", .local), ("width", .local), ("words", .local), ("told", .local), ("folded", .local), ("word", .local), ("range", .globalImplicit), ("sum", .globalImplicit), ("len", .globalImplicit), ("_law_tell", .globalImplicit), ("_ValueFormatter", .globalImplicit), ("_law_read", .globalImplicit), ("_law_lexer", .globalImplicit), ("_law_ends", .globalImplicit)] .false .false [("fast", .str "script"), ("fast", .str "seeds"), ("fast", .str "k"), ("fast", .str "cells"), ("fast", .str "x"), ("fast", .str "parts"), ("fast", .str "rest"), ("fast", .str "width"), ("fast", .str "words"), ("fast", .str "told"), ("fast", .str "folded"), ("fast", .str "word")]) (3 : Nat) [] .none .none .none (.str "law_wu0089_01" (681 : Nat)) (none : Option Nat) (.ref (341 : Nat)) .none (0 : Nat))) #[]) ::
[]) : List (Nat × Obj))
noncomputable def ok (a : Nat) (P : Params) : Obj := ((hd.heap_39 P).lookup a).getD default
/-- what a def's code keeps -/
noncomputable def tmpl (o : Obj) : Obj := match o.data with
  | .func f => ⟨.none, none, .func ⟨f.name, f.qualname, f.params, f.body, f.scope, 0, [], .none, .none, .none, .none, none, .none, .none, 0⟩, #[]⟩
  | _ => o
noncomputable def o41 (P : Params) : Obj := .mk (.type "dict") (none : Option Nat) (.dict #[.mk (PyData.keyHash P "__name__") (.str "__name__" (1 : Nat)) (.str "builtins" (160 : Nat)), .mk (PyData.keyHash P "__doc__") (.str "__doc__" (2 : Nat)) (.builtin "builtins.__doc__:str#opaque"), .mk (PyData.keyHash P "__package__") (.str "__package__" (3 : Nat)) (.builtin "builtins.__package__:str#opaque"), .mk (PyData.keyHash P "__loader__") (.str "__loader__" (4 : Nat)) (.builtin "builtins.__loader__:shared#opaque"), .mk (PyData.keyHash P "__spec__") (.str "__spec__" (5 : Nat)) (.builtin "builtins.__spec__#opaque"), .mk (PyData.keyHash P "__build_class__") (.str "__build_class__" (6 : Nat)) (.builtin "__build_class__"), .mk (PyData.keyHash P "__import__") (.str "__import__" (7 : Nat)) (.builtin "__import__"), .mk (PyData.keyHash P "abs") (.str "abs" (8 : Nat)) (.builtin "abs"), .mk (PyData.keyHash P "all") (.str "all" (9 : Nat)) (.builtin "all"), .mk (PyData.keyHash P "any") (.str "any" (10 : Nat)) (.builtin "any"), .mk (PyData.keyHash P "ascii") (.str "ascii" (11 : Nat)) (.builtin "ascii"), .mk (PyData.keyHash P "bin") (.str "bin" (12 : Nat)) (.builtin "bin"), .mk (PyData.keyHash P "breakpoint") (.str "breakpoint" (13 : Nat)) (.builtin "breakpoint"), .mk (PyData.keyHash P "callable") (.str "callable" (14 : Nat)) (.builtin "callable"), .mk (PyData.keyHash P "chr") (.str "chr" (15 : Nat)) (.builtin "chr"), .mk (PyData.keyHash P "compile") (.str "compile" (16 : Nat)) (.builtin "compile"), .mk (PyData.keyHash P "delattr") (.str "delattr" (17 : Nat)) (.builtin "delattr"), .mk (PyData.keyHash P "dir") (.str "dir" (18 : Nat)) (.builtin "dir"), .mk (PyData.keyHash P "divmod") (.str "divmod" (19 : Nat)) (.builtin "divmod"), .mk (PyData.keyHash P "eval") (.str "eval" (20 : Nat)) (.builtin "eval"), .mk (PyData.keyHash P "exec") (.str "exec" (21 : Nat)) (.builtin "exec"), .mk (PyData.keyHash P "format") (.str "format" (22 : Nat)) (.builtin "format"), .mk (PyData.keyHash P "getattr") (.str "getattr" (23 : Nat)) (.builtin "getattr"), .mk (PyData.keyHash P "globals") (.str "globals" (24 : Nat)) (.builtin "globals"), .mk (PyData.keyHash P "hasattr") (.str "hasattr" (25 : Nat)) (.builtin "hasattr"), .mk (PyData.keyHash P "hash") (.str "hash" (26 : Nat)) (.builtin "hash"), .mk (PyData.keyHash P "hex") (.str "hex" (27 : Nat)) (.builtin "hex"), .mk (PyData.keyHash P "id") (.str "id" (28 : Nat)) (.builtin "id"), .mk (PyData.keyHash P "input") (.str "input" (29 : Nat)) (.builtin "input"), .mk (PyData.keyHash P "isinstance") (.str "isinstance" (30 : Nat)) (.builtin "isinstance"), .mk (PyData.keyHash P "issubclass") (.str "issubclass" (31 : Nat)) (.builtin "issubclass"), .mk (PyData.keyHash P "iter") (.str "iter" (32 : Nat)) (.builtin "iter"), .mk (PyData.keyHash P "aiter") (.str "aiter" (33 : Nat)) (.builtin "aiter"), .mk (PyData.keyHash P "len") (.str "len" (34 : Nat)) (.builtin "len"), .mk (PyData.keyHash P "locals") (.str "locals" (35 : Nat)) (.builtin "locals"), .mk (PyData.keyHash P "max") (.str "max" (36 : Nat)) (.builtin "max"), .mk (PyData.keyHash P "min") (.str "min" (37 : Nat)) (.builtin "min"), .mk (PyData.keyHash P "next") (.str "next" (38 : Nat)) (.builtin "next"), .mk (PyData.keyHash P "anext") (.str "anext" (39 : Nat)) (.builtin "anext"), .mk (PyData.keyHash P "oct") (.str "oct" (40 : Nat)) (.builtin "oct"), .mk (PyData.keyHash P "ord") (.str "ord" (41 : Nat)) (.builtin "ord"), .mk (PyData.keyHash P "pow") (.str "pow" (42 : Nat)) (.builtin "pow"), .mk (PyData.keyHash P "print") (.str "print" (43 : Nat)) (.builtin "print"), .mk (PyData.keyHash P "repr") (.str "repr" (44 : Nat)) (.builtin "repr"), .mk (PyData.keyHash P "round") (.str "round" (45 : Nat)) (.builtin "round"), .mk (PyData.keyHash P "setattr") (.str "setattr" (46 : Nat)) (.builtin "setattr"), .mk (PyData.keyHash P "sorted") (.str "sorted" (47 : Nat)) (.builtin "sorted"), .mk (PyData.keyHash P "sum") (.str "sum" (48 : Nat)) (.builtin "sum"), .mk (PyData.keyHash P "vars") (.str "vars" (49 : Nat)) (.builtin "vars"), .mk (PyData.keyHash P "None") (.str "None" (50 : Nat)) .none, .mk (PyData.keyHash P "Ellipsis") (.str "Ellipsis" (51 : Nat)) .ellipsis, .mk (PyData.keyHash P "NotImplemented") (.str "NotImplemented" (52 : Nat)) .notImplemented, .mk (PyData.keyHash P "False") (.str "False" (53 : Nat)) (.bool .false), .mk (PyData.keyHash P "True") (.str "True" (54 : Nat)) (.bool .true), .mk (PyData.keyHash P "bool") (.str "bool" (55 : Nat)) (.type "bool"), .mk (PyData.keyHash P "memoryview") (.str "memoryview" (56 : Nat)) (.type "memoryview"), .mk (PyData.keyHash P "bytearray") (.str "bytearray" (57 : Nat)) (.type "bytearray"), .mk (PyData.keyHash P "bytes") (.str "bytes" (58 : Nat)) (.type "bytes"), .mk (PyData.keyHash P "classmethod") (.str "classmethod" (59 : Nat)) (.type "classmethod"), .mk (PyData.keyHash P "complex") (.str "complex" (60 : Nat)) (.type "complex"), .mk (PyData.keyHash P "dict") (.str "dict" (61 : Nat)) (.type "dict"), .mk (PyData.keyHash P "enumerate") (.str "enumerate" (62 : Nat)) (.type "enumerate"), .mk (PyData.keyHash P "filter") (.str "filter" (63 : Nat)) (.type "filter"), .mk (PyData.keyHash P "float") (.str "float" (64 : Nat)) (.type "float"), .mk (PyData.keyHash P "frozenset") (.str "frozenset" (65 : Nat)) (.type "frozenset"), .mk (PyData.keyHash P "property") (.str "property" (66 : Nat)) (.type "property"), .mk (PyData.keyHash P "int") (.str "int" (67 : Nat)) (.type "int"), .mk (PyData.keyHash P "list") (.str "list" (68 : Nat)) (.type "list"), .mk (PyData.keyHash P "map") (.str "map" (69 : Nat)) (.type "map"), .mk (PyData.keyHash P "object") (.str "object" (70 : Nat)) (.type "object"), .mk (PyData.keyHash P "range") (.str "range" (71 : Nat)) (.type "range"), .mk (PyData.keyHash P "reversed") (.str "reversed" (72 : Nat)) (.type "reversed"), .mk (PyData.keyHash P "set") (.str "set" (73 : Nat)) (.type "set"), .mk (PyData.keyHash P "slice") (.str "slice" (74 : Nat)) (.type "slice"), .mk (PyData.keyHash P "staticmethod") (.str "staticmethod" (75 : Nat)) (.type "staticmethod"), .mk (PyData.keyHash P "str") (.str "str" (76 : Nat)) (.type "str"), .mk (PyData.keyHash P "super") (.str "super" (77 : Nat)) (.type "super"), .mk (PyData.keyHash P "tuple") (.str "tuple" (78 : Nat)) (.type "tuple"), .mk (PyData.keyHash P "type") (.str "type" (79 : Nat)) (.type "type"), .mk (PyData.keyHash P "zip") (.str "zip" (80 : Nat)) (.type "zip"), .mk (PyData.keyHash P "__debug__") (.str "__debug__" (81 : Nat)) (.bool .true), .mk (PyData.keyHash P "BaseException") (.str "BaseException" (82 : Nat)) (.type "BaseException"), .mk (PyData.keyHash P "BaseExceptionGroup") (.str "BaseExceptionGroup" (83 : Nat)) (.type "BaseExceptionGroup"), .mk (PyData.keyHash P "Exception") (.str "Exception" (84 : Nat)) (.type "Exception"), .mk (PyData.keyHash P "GeneratorExit") (.str "GeneratorExit" (85 : Nat)) (.type "GeneratorExit"), .mk (PyData.keyHash P "KeyboardInterrupt") (.str "KeyboardInterrupt" (86 : Nat)) (.type "KeyboardInterrupt"), .mk (PyData.keyHash P "SystemExit") (.str "SystemExit" (87 : Nat)) (.type "SystemExit"), .mk (PyData.keyHash P "ArithmeticError") (.str "ArithmeticError" (88 : Nat)) (.type "ArithmeticError"), .mk (PyData.keyHash P "AssertionError") (.str "AssertionError" (89 : Nat)) (.type "AssertionError"), .mk (PyData.keyHash P "AttributeError") (.str "AttributeError" (90 : Nat)) (.type "AttributeError"), .mk (PyData.keyHash P "BufferError") (.str "BufferError" (91 : Nat)) (.type "BufferError"), .mk (PyData.keyHash P "EOFError") (.str "EOFError" (92 : Nat)) (.type "EOFError"), .mk (PyData.keyHash P "ImportError") (.str "ImportError" (93 : Nat)) (.type "ImportError"), .mk (PyData.keyHash P "LookupError") (.str "LookupError" (94 : Nat)) (.type "LookupError"), .mk (PyData.keyHash P "MemoryError") (.str "MemoryError" (95 : Nat)) (.type "MemoryError"), .mk (PyData.keyHash P "NameError") (.str "NameError" (96 : Nat)) (.type "NameError"), .mk (PyData.keyHash P "OSError") (.str "OSError" (97 : Nat)) (.type "OSError"), .mk (PyData.keyHash P "ReferenceError") (.str "ReferenceError" (98 : Nat)) (.type "ReferenceError"), .mk (PyData.keyHash P "RuntimeError") (.str "RuntimeError" (99 : Nat)) (.type "RuntimeError"), .mk (PyData.keyHash P "StopAsyncIteration") (.str "StopAsyncIteration" (100 : Nat)) (.type "StopAsyncIteration"), .mk (PyData.keyHash P "StopIteration") (.str "StopIteration" (101 : Nat)) (.type "StopIteration"), .mk (PyData.keyHash P "SyntaxError") (.str "SyntaxError" (102 : Nat)) (.type "SyntaxError"), .mk (PyData.keyHash P "SystemError") (.str "SystemError" (103 : Nat)) (.type "SystemError"), .mk (PyData.keyHash P "TypeError") (.str "TypeError" (104 : Nat)) (.type "TypeError"), .mk (PyData.keyHash P "ValueError") (.str "ValueError" (105 : Nat)) (.type "ValueError"), .mk (PyData.keyHash P "Warning") (.str "Warning" (106 : Nat)) (.type "Warning"), .mk (PyData.keyHash P "FloatingPointError") (.str "FloatingPointError" (107 : Nat)) (.type "FloatingPointError"), .mk (PyData.keyHash P "OverflowError") (.str "OverflowError" (108 : Nat)) (.type "OverflowError"), .mk (PyData.keyHash P "ZeroDivisionError") (.str "ZeroDivisionError" (109 : Nat)) (.type "ZeroDivisionError"), .mk (PyData.keyHash P "BytesWarning") (.str "BytesWarning" (110 : Nat)) (.type "BytesWarning"), .mk (PyData.keyHash P "DeprecationWarning") (.str "DeprecationWarning" (111 : Nat)) (.type "DeprecationWarning"), .mk (PyData.keyHash P "EncodingWarning") (.str "EncodingWarning" (112 : Nat)) (.type "EncodingWarning"), .mk (PyData.keyHash P "FutureWarning") (.str "FutureWarning" (113 : Nat)) (.type "FutureWarning"), .mk (PyData.keyHash P "ImportWarning") (.str "ImportWarning" (114 : Nat)) (.type "ImportWarning"), .mk (PyData.keyHash P "PendingDeprecationWarning") (.str "PendingDeprecationWarning" (115 : Nat)) (.type "PendingDeprecationWarning"), .mk (PyData.keyHash P "ResourceWarning") (.str "ResourceWarning" (116 : Nat)) (.type "ResourceWarning"), .mk (PyData.keyHash P "RuntimeWarning") (.str "RuntimeWarning" (117 : Nat)) (.type "RuntimeWarning"), .mk (PyData.keyHash P "SyntaxWarning") (.str "SyntaxWarning" (118 : Nat)) (.type "SyntaxWarning"), .mk (PyData.keyHash P "UnicodeWarning") (.str "UnicodeWarning" (119 : Nat)) (.type "UnicodeWarning"), .mk (PyData.keyHash P "UserWarning") (.str "UserWarning" (120 : Nat)) (.type "UserWarning"), .mk (PyData.keyHash P "BlockingIOError") (.str "BlockingIOError" (121 : Nat)) (.type "BlockingIOError"), .mk (PyData.keyHash P "ChildProcessError") (.str "ChildProcessError" (122 : Nat)) (.type "ChildProcessError"), .mk (PyData.keyHash P "ConnectionError") (.str "ConnectionError" (123 : Nat)) (.type "ConnectionError"), .mk (PyData.keyHash P "FileExistsError") (.str "FileExistsError" (124 : Nat)) (.type "FileExistsError"), .mk (PyData.keyHash P "FileNotFoundError") (.str "FileNotFoundError" (125 : Nat)) (.type "FileNotFoundError"), .mk (PyData.keyHash P "InterruptedError") (.str "InterruptedError" (126 : Nat)) (.type "InterruptedError"), .mk (PyData.keyHash P "IsADirectoryError") (.str "IsADirectoryError" (127 : Nat)) (.type "IsADirectoryError"), .mk (PyData.keyHash P "NotADirectoryError") (.str "NotADirectoryError" (128 : Nat)) (.type "NotADirectoryError"), .mk (PyData.keyHash P "PermissionError") (.str "PermissionError" (129 : Nat)) (.type "PermissionError"), .mk (PyData.keyHash P "ProcessLookupError") (.str "ProcessLookupError" (130 : Nat)) (.type "ProcessLookupError"), .mk (PyData.keyHash P "TimeoutError") (.str "TimeoutError" (131 : Nat)) (.type "TimeoutError"), .mk (PyData.keyHash P "IndentationError") (.str "IndentationError" (132 : Nat)) (.type "IndentationError"), .mk (PyData.keyHash P "_IncompleteInputError") (.str "_IncompleteInputError" (133 : Nat)) (.type "_IncompleteInputError"), .mk (PyData.keyHash P "IndexError") (.str "IndexError" (134 : Nat)) (.type "IndexError"), .mk (PyData.keyHash P "KeyError") (.str "KeyError" (135 : Nat)) (.type "KeyError"), .mk (PyData.keyHash P "ModuleNotFoundError") (.str "ModuleNotFoundError" (136 : Nat)) (.type "ModuleNotFoundError"), .mk (PyData.keyHash P "NotImplementedError") (.str "NotImplementedError" (137 : Nat)) (.type "NotImplementedError"), .mk (PyData.keyHash P "PythonFinalizationError") (.str "PythonFinalizationError" (138 : Nat)) (.type "PythonFinalizationError"), .mk (PyData.keyHash P "RecursionError") (.str "RecursionError" (139 : Nat)) (.type "RecursionError"), .mk (PyData.keyHash P "UnboundLocalError") (.str "UnboundLocalError" (140 : Nat)) (.type "UnboundLocalError"), .mk (PyData.keyHash P "UnicodeError") (.str "UnicodeError" (141 : Nat)) (.type "UnicodeError"), .mk (PyData.keyHash P "BrokenPipeError") (.str "BrokenPipeError" (142 : Nat)) (.type "BrokenPipeError"), .mk (PyData.keyHash P "ConnectionAbortedError") (.str "ConnectionAbortedError" (143 : Nat)) (.type "ConnectionAbortedError"), .mk (PyData.keyHash P "ConnectionRefusedError") (.str "ConnectionRefusedError" (144 : Nat)) (.type "ConnectionRefusedError"), .mk (PyData.keyHash P "ConnectionResetError") (.str "ConnectionResetError" (145 : Nat)) (.type "ConnectionResetError"), .mk (PyData.keyHash P "TabError") (.str "TabError" (146 : Nat)) (.type "TabError"), .mk (PyData.keyHash P "UnicodeDecodeError") (.str "UnicodeDecodeError" (147 : Nat)) (.type "UnicodeDecodeError"), .mk (PyData.keyHash P "UnicodeEncodeError") (.str "UnicodeEncodeError" (148 : Nat)) (.type "UnicodeEncodeError"), .mk (PyData.keyHash P "UnicodeTranslateError") (.str "UnicodeTranslateError" (149 : Nat)) (.type "UnicodeTranslateError"), .mk (PyData.keyHash P "ExceptionGroup") (.str "ExceptionGroup" (150 : Nat)) (.type "ExceptionGroup"), .mk (PyData.keyHash P "EnvironmentError") (.str "EnvironmentError" (151 : Nat)) (.type "OSError"), .mk (PyData.keyHash P "IOError") (.str "IOError" (152 : Nat)) (.type "OSError"), .mk (PyData.keyHash P "open") (.str "open" (153 : Nat)) (.builtin "open"), .mk (PyData.keyHash P "quit") (.str "quit" (154 : Nat)) (.builtin "builtins.quit#opaque"), .mk (PyData.keyHash P "exit") (.str "exit" (155 : Nat)) (.builtin "builtins.exit#opaque"), .mk (PyData.keyHash P "copyright") (.str "copyright" (156 : Nat)) (.builtin "builtins.copyright#opaque"), .mk (PyData.keyHash P "credits") (.str "credits" (157 : Nat)) (.builtin "builtins.credits#opaque"), .mk (PyData.keyHash P "license") (.str "license" (158 : Nat)) (.builtin "builtins.license#opaque"), .mk (PyData.keyHash P "help") (.str "help" (159 : Nat)) (.builtin "builtins.help#opaque")] 159) #[]
noncomputable def o42 (P : Params) : Obj := .mk (.type "dict") (none : Option Nat) (.dict #[.mk (PyData.keyHash P "builtins") (.str "builtins" (162 : Nat)) (.ref (4 : Nat)), .mk (PyData.keyHash P "__main__") (.str "__main__" (163 : Nat)) (.ref (5 : Nat)), .mk (PyData.keyHash P "_sre") (.str "_sre" (244 : Nat)) (.ref (12 : Nat))] 3) #[]
noncomputable def o43 (P : Params) : Obj := .mk .none (none : Option Nat) (.dict #[.mk (PyData.keyHash P "\x69mport.loaded._sre") (.str "\x69mport.loaded._sre" (183 : Nat)) (.bool .true), .mk (PyData.keyHash P "class._frozen_importlib.BuiltinImporter") (.str "class._frozen_importlib.BuiltinImporter" (185 : Nat)) (.ref (14 : Nat)), .mk (PyData.keyHash P "watched.\x69mport") (.str "watched.\x69mport" (206 : Nat)) (.ref (18 : Nat)), .mk (PyData.keyHash P "class._frozen_importlib.ModuleSpec") (.str "class._frozen_importlib.ModuleSpec" (216 : Nat)) (.ref (22 : Nat)), .mk (PyData.keyHash P "sys.modules.booked-epoch") (.str "sys.modules.booked-epoch" (245 : Nat)) (.int 3 (0 : Nat)), .mk (PyData.keyHash P "\x69mport.later-laid._sre") (.str "\x69mport.later-laid._sre" (270 : Nat)) (.bool .true), .mk (PyData.keyHash P "watched.library") (.str "watched.library" (272 : Nat)) (.ref (27 : Nat)), .mk (PyData.keyHash P "watched.library-objects") (.str "watched.library-objects" (0 : Nat)) (.str "\x0c" (0 : Nat)), .mk (PyData.keyHash P "watched.library-deep._sre") (.str "watched.library-deep._sre" (273 : Nat)) (.str "\x04\x00\x00\x0b\x04\x00\x00\x0b\x04\x00\x00\x03\x04\x00\x00\x0b\x08\x04dict\x02" (0 : Nat))] 9) #[]
noncomputable def o44 (P : Params) : Obj := .mk (.type "dict") (none : Option Nat) (.dict #[.mk (PyData.keyHash P "__name__") (.str "__name__" (165 : Nat)) (.str "__main__" (164 : Nat)), .mk (PyData.keyHash P "__doc__") (.str "__doc__" (166 : Nat)) .none, .mk (PyData.keyHash P "__package__") (.str "__package__" (167 : Nat)) .none, .mk (PyData.keyHash P "__loader__") (.str "__loader__" (168 : Nat)) (.builtin "__main__.__loader__#opaque"), .mk (PyData.keyHash P "__spec__") (.str "__spec__" (169 : Nat)) .none, .mk (PyData.keyHash P "__annotations__") (.str "__annotations__" (170 : Nat)) (.ref (6 : Nat)), .mk (PyData.keyHash P "__builtins__") (.str "__builtins__" (171 : Nat)) (.ref (4 : Nat)), .mk (PyData.keyHash P "__file__") (.str "__file__" (173 : Nat)) (.str "/claim/cut.py" (172 : Nat)), .mk (PyData.keyHash P "__cached__") (.str "__cached__" (174 : Nat)) .none, .mk (PyData.keyHash P "_sre") (.str "_sre" (275 : Nat)) (.ref (12 : Nat))] 10) #[]
noncomputable def o45 (P : Params) : Obj := .mk (.type "module") ((some 0) : Option Nat) .plain #[]
noncomputable def o46 (P : Params) : Obj := .mk (.type "module") ((some 3) : Option Nat) .plain #[]
noncomputable def o47 (P : Params) : Obj := .mk (.type "dict") (none : Option Nat) (.dict #[] 0) #[]
noncomputable def o48 (P : Params) : Obj := .mk (.type "tuple") (none : Option Nat) (.seq #[] 0) #[]
noncomputable def o49 (P : Params) : Obj := .mk .none (none : Option Nat) (.fields #[]) #[]
noncomputable def o50 (P : Params) : Obj := .mk (.type "code") (none : Option Nat) (.fields #[.str "<module>" (176 : Nat), .str "<module>" (177 : Nat), .str "/claim/cut.py" (178 : Nat), .int 1 (0 : Nat), .int 0 (0 : Nat), .int 0 (0 : Nat), .int 0 (0 : Nat), .int 0 (0 : Nat), .ref (7 : Nat), .bool .false, .int 175 (0 : Nat), .ref (8 : Nat), .none, .none, .none, .none, .int 179 (0 : Nat), .int 1 (0 : Nat), .str "/claim/cut.py" (180 : Nat)]) #[]
noncomputable def o51 (P : Params) : Obj := .mk (.type "frame") (none : Option Nat) .plain #[some (.ref (9 : Nat)), some (.ref (3 : Nat)), some (.ref (3 : Nat)), none, some (.str "__main__" (164 : Nat)), none, some (.ref (0 : Nat))]
noncomputable def o52 (P : Params) : Obj := .mk (.type "dict") (none : Option Nat) (.dict #[.mk (PyData.keyHash P "__name__") (.str "__name__" (247 : Nat)) (.str "_sre" (246 : Nat)), .mk (PyData.keyHash P "__doc__") (.str "__doc__" (248 : Nat)) .none, .mk (PyData.keyHash P "__package__") (.str "__package__" (250 : Nat)) (.str "" (249 : Nat)), .mk (PyData.keyHash P "__loader__") (.str "__loader__" (251 : Nat)) (.builtin "off-the-table:_sre.__loader__:shared#opaque"), .mk (PyData.keyHash P "__spec__") (.str "__spec__" (252 : Nat)) (.builtin "off-the-table:_sre.__spec__:shared#opaque"), .mk (PyData.keyHash P "compile") (.str "compile" (253 : Nat)) (.builtin "_sre.compile"), .mk (PyData.keyHash P "template") (.str "template" (254 : Nat)) (.builtin "off-the-table:_sre.template:shared#opaque"), .mk (PyData.keyHash P "getcodesize") (.str "getcodesize" (255 : Nat)) (.builtin "off-the-table:_sre.getcodesize:shared#opaque"), .mk (PyData.keyHash P "ascii_iscased") (.str "ascii_iscased" (256 : Nat)) (.builtin "off-the-table:_sre.ascii_iscased:shared#opaque"), .mk (PyData.keyHash P "unicode_iscased") (.str "unicode_iscased" (257 : Nat)) (.builtin "off-the-table:_sre.unicode_iscased:shared#opaque"), .mk (PyData.keyHash P "ascii_tolower") (.str "ascii_tolower" (258 : Nat)) (.builtin "off-the-table:_sre.ascii_tolower:shared#opaque"), .mk (PyData.keyHash P "unicode_tolower") (.str "unicode_tolower" (259 : Nat)) (.builtin "off-the-table:_sre.unicode_tolower:shared#opaque"), .mk (PyData.keyHash P "MAGIC") (.str "MAGIC" (261 : Nat)) (.int 20230612 (260 : Nat)), .mk (PyData.keyHash P "CODESIZE") (.str "CODESIZE" (263 : Nat)) (.int 4 (262 : Nat)), .mk (PyData.keyHash P "MAXREPEAT") (.str "MAXREPEAT" (265 : Nat)) (.int 4294967295 (264 : Nat)), .mk (PyData.keyHash P "MAXGROUPS") (.str "MAXGROUPS" (267 : Nat)) (.int 1073741823 (266 : Nat)), .mk (PyData.keyHash P "copyright") (.str "copyright" (269 : Nat)) (.str " SRE 2.2.2 Copyright (c) 1997-2002 by Secret Labs AB " (268 : Nat))] 17) #[]
noncomputable def o53 (P : Params) : Obj := .mk (.type "module") ((some 11) : Option Nat) .plain #[]
noncomputable def o54 (P : Params) : Obj := .mk (.type "dict") (none : Option Nat) (.dict #[.mk (PyData.keyHash P "__module__") (.str "__module__" (189 : Nat)) (.str "_frozen_importlib" (186 : Nat)), .mk (PyData.keyHash P "__firstlineno__") (.str "__firstlineno__" (190 : Nat)) (.int 971 (187 : Nat)), .mk (PyData.keyHash P "__doc__") (.str "__doc__" (191 : Nat)) (.builtin "_frozen_importlib.BuiltinImporter.__doc__:str#opaque"), .mk (PyData.keyHash P "_ORIGIN") (.str "_ORIGIN" (192 : Nat)) (.str "built-in" (188 : Nat)), .mk (PyData.keyHash P "find_spec") (.str "find_spec" (193 : Nat)) (.builtin "_frozen_importlib.BuiltinImporter.find_spec#opaque"), .mk (PyData.keyHash P "create_module") (.str "create_module" (194 : Nat)) (.builtin "_frozen_importlib.BuiltinImporter.create_module#opaque"), .mk (PyData.keyHash P "exec_module") (.str "exec_module" (195 : Nat)) (.builtin "_frozen_importlib.BuiltinImporter.exec_module#opaque"), .mk (PyData.keyHash P "get_code") (.str "get_code" (196 : Nat)) (.builtin "_frozen_importlib.BuiltinImporter.get_code#opaque"), .mk (PyData.keyHash P "get_source") (.str "get_source" (197 : Nat)) (.builtin "_frozen_importlib.BuiltinImporter.get_source#opaque"), .mk (PyData.keyHash P "is_package") (.str "is_package" (198 : Nat)) (.builtin "_frozen_importlib.BuiltinImporter.is_package#opaque"), .mk (PyData.keyHash P "load_module") (.str "load_module" (199 : Nat)) (.builtin "_frozen_importlib.BuiltinImporter.load_module#opaque"), .mk (PyData.keyHash P "__static_attributes__") (.str "__static_attributes__" (200 : Nat)) (.ref (15 : Nat)), .mk (PyData.keyHash P "__dict__") (.str "__dict__" (202 : Nat)) (.ref (16 : Nat)), .mk (PyData.keyHash P "__weakref__") (.str "__weakref__" (204 : Nat)) (.ref (17 : Nat))] 14) #[]
noncomputable def o55 (P : Params) : Obj := .mk (.type "type") (none : Option Nat) (.cls (.mk "BuiltinImporter" [.type "object"] [.ref (14 : Nat), .type "object"] (13 : Nat) "BuiltinImporter" .true [] [] .false none .false)) #[]
noncomputable def o56 (P : Params) : Obj := .mk (.type "tuple") (none : Option Nat) (.seq #[] 0) #[]
noncomputable def o57 (P : Params) : Obj := .mk (.type "getset_descriptor") (none : Option Nat) (.fields #[.str "__dict__" (201 : Nat), .ref (14 : Nat), .builtin "function.__dict__", .builtin "function.__dict__#set"]) #[]
noncomputable def o58 (P : Params) : Obj := .mk (.type "getset_descriptor") (none : Option Nat) (.fields #[.str "__weakref__" (203 : Nat), .ref (14 : Nat), .builtin "ExceptionGroup.__weakref__", .none]) #[]
noncomputable def o59 (P : Params) : Obj := .mk .none (none : Option Nat) (.seq #[.int 13 (0 : Nat), .str "\x06½\n__module__\x06º\x11_frozen_importlib\x06¾\x0f__firstlineno__\x04»\x00ϋ\x06¿\x07__doc__\t4_frozen_importlib.BuiltinImporter.__doc__:str#opaque\x06À\x07_ORIGIN\x06¼\x08built-in\x06Á\tfind_spec\t2_frozen_importlib.BuiltinImporter.find_spec#opaque\x06Â\x0dcreate_module\t6_frozen_importlib.BuiltinImporter.create_module#opaque\x06Ã\x0bexec_module\t4_frozen_importlib.BuiltinImporter.exec_module#opaque\x06Ä\x08get_code\t1_frozen_importlib.BuiltinImporter.get_code#opaque\x06Å\nget_source\t3_frozen_importlib.BuiltinImporter.get_source#opaque\x06Æ\nis_package\t3_frozen_importlib.BuiltinImporter.is_package#opaque\x06Ç\x0bload_module\t4_frozen_importlib.BuiltinImporter.load_module#opaque\x06È\x15__static_attributes__\x04\x00\x00\x0f\x06Ê\x08__dict__\x04\x00\x00\x10\x06Ì\x0b__weakref__\x04\x00\x00\x11" (0 : Nat), .bool .true, .bool .true, .str "" (205 : Nat), .int 21 (0 : Nat), .str "\x06ã\n__module__\x06Ù\x11_frozen_importlib\x06ä\x0f__firstlineno__\x04Ú\x00Ȳ\x06å\x07__doc__\t/_frozen_importlib.ModuleSpec.__doc__:str#opaque\x06æ\x08__init__\t,_frozen_importlib.ModuleSpec.__init__#opaque\x06ç\x08__repr__\t,_frozen_importlib.ModuleSpec.__repr__#opaque\x06è\x06__eq__\t*_frozen_importlib.ModuleSpec.__eq__#opaque\x06é\x06cached\t*_frozen_importlib.ModuleSpec.cached#opaque\x06ê\x06parent\t*_frozen_importlib.ModuleSpec.parent#opaque\x06ë\x0chas_location\t0_frozen_importlib.ModuleSpec.has_location#opaque\x06ì\x15__static_attributes__\x04\x00\x00\x17\x06î\x08__dict__\x04\x00\x00\x18\x06ð\x0b__weakref__\x04\x00\x00\x19\x06ñ\x08__hash__\x00" (0 : Nat), .bool .true, .bool .true, .str "" (242 : Nat)] 1) #[]
noncomputable def o60 (P : Params) : Obj := .mk (.type "list") (none : Option Nat) (.seq #[] 0) #[]
noncomputable def o61 (P : Params) : Obj := .mk (.type "dict") (none : Option Nat) (.dict #[.mk (PyData.keyHash P "name") (.str "name" (208 : Nat)) (.str "_sre" (207 : Nat)), .mk (PyData.keyHash P "loader") (.str "loader" (209 : Nat)) (.ref (14 : Nat)), .mk (PyData.keyHash P "origin") (.str "origin" (210 : Nat)) (.str "built-in" (184 : Nat)), .mk (PyData.keyHash P "loader_state") (.str "loader_state" (211 : Nat)) .none, .mk (PyData.keyHash P "submodule_search_locations") (.str "submodule_search_locations" (212 : Nat)) .none, .mk (PyData.keyHash P "_uninitialized_submodules") (.str "_uninitialized_submodules" (213 : Nat)) (.ref (19 : Nat)), .mk (PyData.keyHash P "_set_fileattr") (.str "_set_fileattr" (214 : Nat)) (.bool .false), .mk (PyData.keyHash P "_cached") (.str "_cached" (215 : Nat)) .none, .mk (PyData.keyHash P "_initializing") (.str "_initializing" (243 : Nat)) (.bool .false)] 9) #[]
noncomputable def o62 (P : Params) : Obj := .mk (.type "dict") (none : Option Nat) (.dict #[.mk (PyData.keyHash P "__module__") (.str "__module__" (227 : Nat)) (.str "_frozen_importlib" (217 : Nat)), .mk (PyData.keyHash P "__firstlineno__") (.str "__firstlineno__" (228 : Nat)) (.int 562 (218 : Nat)), .mk (PyData.keyHash P "__doc__") (.str "__doc__" (229 : Nat)) (.builtin "_frozen_importlib.ModuleSpec.__doc__:str#opaque"), .mk (PyData.keyHash P "__init__") (.str "__init__" (230 : Nat)) (.builtin "_frozen_importlib.ModuleSpec.__init__#opaque"), .mk (PyData.keyHash P "__repr__") (.str "__repr__" (231 : Nat)) (.builtin "_frozen_importlib.ModuleSpec.__repr__#opaque"), .mk (PyData.keyHash P "__eq__") (.str "__eq__" (232 : Nat)) (.builtin "_frozen_importlib.ModuleSpec.__eq__#opaque"), .mk (PyData.keyHash P "cached") (.str "cached" (233 : Nat)) (.builtin "_frozen_importlib.ModuleSpec.cached#opaque"), .mk (PyData.keyHash P "parent") (.str "parent" (234 : Nat)) (.builtin "_frozen_importlib.ModuleSpec.parent#opaque"), .mk (PyData.keyHash P "has_location") (.str "has_location" (235 : Nat)) (.builtin "_frozen_importlib.ModuleSpec.has_location#opaque"), .mk (PyData.keyHash P "__static_attributes__") (.str "__static_attributes__" (236 : Nat)) (.ref (23 : Nat)), .mk (PyData.keyHash P "__dict__") (.str "__dict__" (238 : Nat)) (.ref (24 : Nat)), .mk (PyData.keyHash P "__weakref__") (.str "__weakref__" (240 : Nat)) (.ref (25 : Nat)), .mk (PyData.keyHash P "__hash__") (.str "__hash__" (241 : Nat)) .none] 13) #[]
noncomputable def o63 (P : Params) : Obj := .mk (.type "type") (none : Option Nat) (.cls (.mk "ModuleSpec" [.type "object"] [.ref (22 : Nat), .type "object"] (21 : Nat) "ModuleSpec" .true [] [] .false none .false)) #[]
noncomputable def o64 (P : Params) : Obj := .mk (.type "tuple") (none : Option Nat) (.seq #[.str "_cached" (219 : Nat), .str "_set_fileattr" (220 : Nat), .str "_uninitialized_submodules" (221 : Nat), .str "loader" (222 : Nat), .str "loader_state" (223 : Nat), .str "name" (224 : Nat), .str "origin" (225 : Nat), .str "submodule_search_locations" (226 : Nat)] 0) #[]
noncomputable def o65 (P : Params) : Obj := .mk (.type "getset_descriptor") (none : Option Nat) (.fields #[.str "__dict__" (237 : Nat), .ref (22 : Nat), .builtin "function.__dict__", .builtin "function.__dict__#set"]) #[]
noncomputable def o66 (P : Params) : Obj := .mk (.type "getset_descriptor") (none : Option Nat) (.fields #[.str "__weakref__" (239 : Nat), .ref (22 : Nat), .builtin "ExceptionGroup.__weakref__", .none]) #[]
noncomputable def o67 (P : Params) : Obj := .mk (.ref (22 : Nat)) ((some 20) : Option Nat) .plain #[]
noncomputable def o68 (P : Params) : Obj := .mk .none (none : Option Nat) (.seq #[.int 11 (0 : Nat), .str (.mk #[6, 247, 8, 95, 95, 110, 97, 109, 101, 95, 95, 6, 246, 4, 95, 115, 114, 101, 6, 248, 7, 95, 95, 100, 111, 99, 95, 95, 0, 6, 250, 11, 95, 95, 112, 97, 99, 107, 97, 103, 101, 95, 95, 6, 249, 0, 6, 251, 10, 95, 95, 108, 111, 97, 100, 101, 114, 95, 95, 4, 0, 0, 14, 6, 252, 8, 95, 95, 115, 112, 101, 99, 95, 95, 4, 0, 0, 26, 6, 253, 7, 99, 111, 109, 112, 105, 108, 101, 9, 12, 95, 115, 114, 101, 46, 99, 111, 109, 112, 105, 108, 101, 6, 254, 8, 116, 101, 109, 112, 108, 97, 116, 101, 9, 13, 95, 115, 114, 101, 46, 116, 101, 109, 112, 108, 97, 116, 101, 6, 255, 11, 103, 101, 116, 99, 111, 100, 101, 115, 105, 122, 101, 9, 16, 95, 115, 114, 101, 46, 103, 101, 116, 99, 111, 100, 101, 115, 105, 122, 101, 6, 256, 13, 97, 115, 99, 105, 105, 95, 105, 115, 99, 97, 115, 101, 100, 9, 18, 95, 115, 114, 101, 46, 97, 115, 99, 105, 105, 95, 105, 115, 99, 97, 115, 101, 100, 6, 257, 15, 117, 110, 105, 99, 111, 100, 101, 95, 105, 115, 99, 97, 115, 101, 100, 9, 20, 95, 115, 114, 101, 46, 117, 110, 105, 99, 111, 100, 101, 95, 105, 115, 99, 97, 115, 101, 100, 6, 258, 13, 97, 115, 99, 105, 105, 95, 116, 111, 108, 111, 119, 101, 114, 9, 18, 95, 115, 114, 101, 46, 97, 115, 99, 105, 105, 95, 116, 111, 108, 111, 119, 101, 114, 6, 259, 15, 117, 110, 105, 99, 111, 100, 101, 95, 116, 111, 108, 111, 119, 101, 114, 9, 20, 95, 115, 114, 101, 46, 117, 110, 105, 99, 111, 100, 101, 95, 116, 111, 108, 111, 119, 101, 114, 6, 261, 5, 77, 65, 71, 73, 67, 4, 260, 0, 20230612, 6, 263, 8, 67, 79, 68, 69, 83, 73, 90, 69, 4, 262, 0, 4, 6, 265, 9, 77, 65, 88, 82, 69, 80, 69, 65, 84, 4, 264, 0, 4294967295, 6, 267, 9, 77, 65, 88, 71, 82, 79, 85, 80, 83, 4, 266, 0, 1073741823, 6, 269, 9, 99, 111, 112, 121, 114, 105, 103, 104, 116, 6, 268, 53, 32, 83, 82, 69, 32, 50, 46, 50, 46, 50, 32, 67, 111, 112, 121, 114, 105, 103, 104, 116, 32, 40, 99, 41, 32, 49, 57, 57, 55, 45, 50, 48, 48, 50, 32, 98, 121, 32, 83, 101, 99, 114, 101, 116, 32, 76, 97, 98, 115, 32, 65, 66, 32]) (0 : Nat), .bool .true, .bool .false, .str "_sre" (271 : Nat)] 0) #[]
noncomputable def o69 (P : Params) : Obj := .mk (.type "tuple") (none : Option Nat) (.seq #[] 0) #[]
noncomputable def o70 (P : Params) : Obj := .mk .none (none : Option Nat) (.fields #[]) #[]
noncomputable def o71 (P : Params) : Obj := .mk (.type "code") (none : Option Nat) (.fields #[.str "<module>" (277 : Nat), .str "<module>" (278 : Nat), .str "/claim/cut.py" (279 : Nat), .int 1 (0 : Nat), .int 0 (0 : Nat), .int 0 (0 : Nat), .int 0 (0 : Nat), .int 0 (0 : Nat), .ref (28 : Nat), .bool .false, .int 276 (0 : Nat), .ref (29 : Nat), .none, .none, .none, .none, .int 280 (0 : Nat), .int 1 (0 : Nat), .str "/claim/cut.py" (281 : Nat)]) #[]
noncomputable def o72 (P : Params) : Obj := .mk (.type "frame") (none : Option Nat) .plain #[some (.ref (30 : Nat)), some (.ref (3 : Nat)), some (.ref (3 : Nat)), none, some (.str "__main__" (164 : Nat)), none, some (.ref (0 : Nat))]
noncomputable def o75 (P : Params) : Obj := .mk (.type "dict") (none : Option Nat) (.dict #[.mk (PyData.keyHash P "__name__") (.str "__name__" (165 : Nat)) (.str "cpy313.email.header" (289 : Nat)), .mk (PyData.keyHash P "__doc__") (.str "__doc__" (166 : Nat)) .none, .mk (PyData.keyHash P "__package__") (.str "__package__" (167 : Nat)) .none, .mk (PyData.keyHash P "__loader__") (.str "__loader__" (168 : Nat)) (.builtin "__main__.__loader__#opaque"), .mk (PyData.keyHash P "__spec__") (.str "__spec__" (169 : Nat)) .none, .mk (PyData.keyHash P "__annotations__") (.str "__annotations__" (170 : Nat)) (.ref (6 : Nat)), .mk (PyData.keyHash P "__builtins__") (.str "__builtins__" (171 : Nat)) (.ref (4 : Nat)), .mk (PyData.keyHash P "__file__") (.str "__file__" (173 : Nat)) (.str "/claim/cut.py" (172 : Nat)), .mk (PyData.keyHash P "__cached__") (.str "__cached__" (174 : Nat)) .none, .mk (PyData.keyHash P "_sre") (.str "_sre" (275 : Nat)) (.ref (12 : Nat)), .mk (PyData.keyHash P "_wall") (.str "_wall" (288 : Nat)) (.ref (38 : Nat)), .mk (PyData.keyHash P "_twin_re_1") (.str "_twin_re_1" (318 : Nat)) (.ref (43 : Nat)), .mk (PyData.keyHash P "NL") (.str "NL" (320 : Nat)) (.str "\n" (319 : Nat)), .mk (PyData.keyHash P "EMPTYSTRING") (.str "EMPTYSTRING" (322 : Nat)) (.str "" (321 : Nat))] 14) #[]
noncomputable def o84 (P : Params) : Obj := .mk (.type "list") (none : Option Nat) (.seq #[.int 14 (294 : Nat), .int 4 (295 : Nat), .int 0 (296 : Nat), .int 1 (297 : Nat), .int 4294967295 (298 : Nat), .int 17 (299 : Nat), .int 0 (300 : Nat), .int 24 (301 : Nat), .int 11 (302 : Nat), .int 1 (303 : Nat), .int 4294967295 (304 : Nat), .int 13 (305 : Nat), .int 6 (306 : Nat), .int 16 (307 : Nat), .int 32 (308 : Nat), .int 16 (309 : Nat), .int 9 (310 : Nat), .int 0 (311 : Nat), .int 1 (312 : Nat), .int 17 (313 : Nat), .int 1 (314 : Nat), .int 1 (315 : Nat)] 0) #[]
noncomputable def o80 (P : Params) : Obj := ok 35 P
noncomputable def o88 (P : Params) : Obj := ok 43 P
noncomputable def o78 (P : Params) : Obj := .mk .none (none : Option Nat) (.fields #[]) #[]
noncomputable def o86 (P : Params) : Obj := .mk (.type "tuple") (none : Option Nat) (.seq #[.none, .none] 0) #[]
noncomputable def o82 (P : Params) : Obj := ok 37 P
noncomputable def o76 (P : Params) : Obj := .mk .none (none : Option Nat) (.fields #[.int 2 (0 : Nat), .int 0 (0 : Nat), .ref (37 : Nat)]) #[]
noncomputable def o77 (P : Params) : Obj := ok 32 P
noncomputable def o85 (P : Params) : Obj := .mk (.type "dict") (none : Option Nat) (.dict #[] 0) #[]
noncomputable def o81 (P : Params) : Obj := tmpl (ok 38 P)
noncomputable def o79 (P : Params) : Obj := ok 34 P
noncomputable def o87 (P : Params) : Obj := ok 42 P
noncomputable def o83 (P : Params) : Obj := ok 38 P
noncomputable def o89 (P : Params) : Obj := .mk (.type "dict") (none : Option Nat) (.dict #[.mk (PyData.keyHash P "__name__") (.str "__name__" (165 : Nat)) (.str "cpy313.email.header" (289 : Nat)), .mk (PyData.keyHash P "__doc__") (.str "__doc__" (166 : Nat)) .none, .mk (PyData.keyHash P "__package__") (.str "__package__" (167 : Nat)) .none, .mk (PyData.keyHash P "__loader__") (.str "__loader__" (168 : Nat)) (.builtin "__main__.__loader__#opaque"), .mk (PyData.keyHash P "__spec__") (.str "__spec__" (169 : Nat)) .none, .mk (PyData.keyHash P "__annotations__") (.str "__annotations__" (170 : Nat)) (.ref (6 : Nat)), .mk (PyData.keyHash P "__builtins__") (.str "__builtins__" (171 : Nat)) (.ref (4 : Nat)), .mk (PyData.keyHash P "__file__") (.str "__file__" (173 : Nat)) (.str "/claim/cut.py" (172 : Nat)), .mk (PyData.keyHash P "__cached__") (.str "__cached__" (174 : Nat)) .none, .mk (PyData.keyHash P "_sre") (.str "_sre" (275 : Nat)) (.ref (12 : Nat)), .mk (PyData.keyHash P "_wall") (.str "_wall" (288 : Nat)) (.ref (38 : Nat)), .mk (PyData.keyHash P "_twin_re_1") (.str "_twin_re_1" (318 : Nat)) (.ref (43 : Nat)), .mk (PyData.keyHash P "NL") (.str "NL" (320 : Nat)) (.str "\n" (319 : Nat)), .mk (PyData.keyHash P "EMPTYSTRING") (.str "EMPTYSTRING" (322 : Nat)) (.str "" (321 : Nat)), .mk (PyData.keyHash P "_ValueFormatter") (.str "_ValueFormatter" (436 : Nat)) (.ref (116 : Nat))] 15) #[]
noncomputable def o110 (P : Params) : Obj := ok 63 P
noncomputable def o142 (P : Params) : Obj := ok 95 P
noncomputable def o94 (P : Params) : Obj := .mk (.type "tuple") (none : Option Nat) (.seq #[] 0) #[]
noncomputable def o126 (P : Params) : Obj := ok 79 P
noncomputable def o158 (P : Params) : Obj := tmpl (ok 113 P)
noncomputable def o118 (P : Params) : Obj := ok 71 P
noncomputable def o150 (P : Params) : Obj := ok 103 P
noncomputable def o102 (P : Params) : Obj := tmpl (ok 57 P)
noncomputable def o134 (P : Params) : Obj := .mk .none (none : Option Nat) (.fields #[]) #[]
noncomputable def o166 (P : Params) : Obj := .mk (.type "super") (none : Option Nat) (.fields #[.ref (116 : Nat), .ref (116 : Nat), .ref (116 : Nat)]) #[]
noncomputable def o114 (P : Params) : Obj := ok 67 P
noncomputable def o146 (P : Params) : Obj := ok 99 P
noncomputable def o98 (P : Params) : Obj := ok 51 P
noncomputable def o130 (P : Params) : Obj := tmpl (ok 85 P)
noncomputable def o162 (P : Params) : Obj := ok 115 P
noncomputable def o122 (P : Params) : Obj := ok 75 P
noncomputable def o154 (P : Params) : Obj := ok 107 P
noncomputable def o106 (P : Params) : Obj := .mk .none (none : Option Nat) (.fields #[]) #[]
noncomputable def o138 (P : Params) : Obj := ok 91 P
noncomputable def o112 (P : Params) : Obj := ok 65 P
noncomputable def o144 (P : Params) : Obj := tmpl (ok 99 P)
noncomputable def o96 (P : Params) : Obj := .mk (.type "code") (none : Option Nat) (.fields #[.str "_ValueFormatter" (325 : Nat), .str "_ValueFormatter" (326 : Nat), .str "/claim/cut.py" (327 : Nat), .int 9 (0 : Nat), .int 0 (0 : Nat), .int 0 (0 : Nat), .int 0 (0 : Nat), .int 0 (0 : Nat), .ref (47 : Nat), .bool .false, .int 276 (0 : Nat), .ref (48 : Nat), .none, .none, .none, .none, .int 328 (0 : Nat), .int 9 (0 : Nat), .str "/claim/cut.py" (329 : Nat)]) #[]
noncomputable def o128 (P : Params) : Obj := ok 81 P
noncomputable def o160 (P : Params) : Obj := ok 113 P
noncomputable def o120 (P : Params) : Obj := .mk .none (none : Option Nat) (.fields #[]) #[]
noncomputable def o152 (P : Params) : Obj := ok 105 P
noncomputable def o104 (P : Params) : Obj := ok 57 P
noncomputable def o136 (P : Params) : Obj := ok 89 P
noncomputable def o116 (P : Params) : Obj := tmpl (ok 71 P)
noncomputable def o148 (P : Params) : Obj := .mk .none (none : Option Nat) (.fields #[]) #[]
noncomputable def o100 (P : Params) : Obj := ok 53 P
noncomputable def o132 (P : Params) : Obj := ok 85 P
noncomputable def o164 (P : Params) : Obj := ok 117 P
noncomputable def o90 (P : Params) : Obj := .mk .none (none : Option Nat) (.fields #[.int 2 (0 : Nat), .int 0 (0 : Nat), .ref (37 : Nat), .int 9 (0 : Nat), .int 0 (0 : Nat), .ref (49 : Nat)]) #[]
noncomputable def o92 (P : Params) : Obj := .mk (.type "builtin_function_or_method") (none : Option Nat) (.fields #[.builtin "type.__prepare__", .type "type"]) #[]
noncomputable def o124 (P : Params) : Obj := ok 77 P
noncomputable def o156 (P : Params) : Obj := ok 109 P
noncomputable def o108 (P : Params) : Obj := ok 61 P
noncomputable def o140 (P : Params) : Obj := ok 93 P
noncomputable def o111 (P : Params) : Obj := ok 64 P
noncomputable def o143 (P : Params) : Obj := ok 96 P
noncomputable def o95 (P : Params) : Obj := .mk .none (none : Option Nat) (.fields #[.int 11 (0 : Nat), .int 4 (0 : Nat), .ref (56 : Nat), .int 19 (0 : Nat), .int 4 (0 : Nat), .ref (63 : Nat), .int 23 (0 : Nat), .int 4 (0 : Nat), .ref (70 : Nat), .int 26 (0 : Nat), .int 4 (0 : Nat), .ref (77 : Nat), .int 37 (0 : Nat), .int 4 (0 : Nat), .ref (84 : Nat), .int 40 (0 : Nat), .int 4 (0 : Nat), .ref (91 : Nat), .int 60 (0 : Nat), .int 4 (0 : Nat), .ref (98 : Nat), .int 65 (0 : Nat), .int 4 (0 : Nat), .ref (105 : Nat), .int 74 (0 : Nat), .int 4 (0 : Nat), .ref (112 : Nat)]) #[]
noncomputable def o127 (P : Params) : Obj := .mk .none (none : Option Nat) (.fields #[]) #[]
noncomputable def o159 (P : Params) : Obj := ok 112 P
noncomputable def o119 (P : Params) : Obj := ok 72 P
noncomputable def o151 (P : Params) : Obj := tmpl (ok 106 P)
noncomputable def o103 (P : Params) : Obj := ok 56 P
noncomputable def o135 (P : Params) : Obj := ok 88 P
noncomputable def o167 (P : Params) : Obj := .mk (.type "builtin_function_or_method") (none : Option Nat) (.fields #[.builtin "object.__init_subclass__", .ref (116 : Nat)]) #[]
noncomputable def o115 (P : Params) : Obj := ok 68 P
noncomputable def o147 (P : Params) : Obj := ok 100 P
noncomputable def o99 (P : Params) : Obj := .mk .none (none : Option Nat) (.fields #[]) #[]
noncomputable def o131 (P : Params) : Obj := ok 84 P
noncomputable def o163 (P : Params) : Obj := ok 116 P
noncomputable def o91 (P : Params) : Obj := .mk (.type "tuple") (none : Option Nat) (.seq #[] 0) #[]
noncomputable def o123 (P : Params) : Obj := tmpl (ok 78 P)
noncomputable def o155 (P : Params) : Obj := .mk .none (none : Option Nat) (.fields #[]) #[]
noncomputable def o107 (P : Params) : Obj := ok 60 P
noncomputable def o139 (P : Params) : Obj := ok 92 P
noncomputable def o113 (P : Params) : Obj := .mk .none (none : Option Nat) (.fields #[]) #[]
noncomputable def o145 (P : Params) : Obj := ok 98 P
noncomputable def o97 (P : Params) : Obj := .mk (.type "frame") (none : Option Nat) .plain #[some (.ref (49 : Nat)), some (.ref (3 : Nat)), some (.ref (46 : Nat)), none, some (.str "cpy313.email.header" (289 : Nat)), none, some (.ref (0 : Nat))]
noncomputable def o129 (P : Params) : Obj := ok 82 P
noncomputable def o161 (P : Params) : Obj := ok 114 P
noncomputable def o121 (P : Params) : Obj := ok 74 P
noncomputable def o153 (P : Params) : Obj := ok 106 P
noncomputable def o105 (P : Params) : Obj := ok 58 P
noncomputable def o137 (P : Params) : Obj := tmpl (ok 92 P)
noncomputable def o117 (P : Params) : Obj := ok 70 P
noncomputable def o149 (P : Params) : Obj := ok 102 P
noncomputable def o101 (P : Params) : Obj := ok 54 P
noncomputable def o133 (P : Params) : Obj := ok 86 P
noncomputable def o165 (P : Params) : Obj := ok 118 P
noncomputable def o93 (P : Params) : Obj := .mk (.type "dict") (none : Option Nat) (.dict #[.mk (PyData.keyHash P "__module__") (.str "__module__" (330 : Nat)) (.str "cpy313.email.header" (289 : Nat)), .mk (PyData.keyHash P "__qualname__") (.str "__qualname__" (332 : Nat)) (.str "_ValueFormatter" (331 : Nat)), .mk (PyData.keyHash P "__firstlineno__") (.str "__firstlineno__" (334 : Nat)) (.int 9 (333 : Nat)), .mk (PyData.keyHash P "__init__") (.str "__init__" (345 : Nat)) (.ref (57 : Nat)), .mk (PyData.keyHash P "_str") (.str "_str" (353 : Nat)) (.ref (64 : Nat)), .mk (PyData.keyHash P "__str__") (.str "__str__" (360 : Nat)) (.ref (71 : Nat)), .mk (PyData.keyHash P "newline") (.str "newline" (368 : Nat)) (.ref (78 : Nat)), .mk (PyData.keyHash P "add_transition") (.str "add_transition" (375 : Nat)) (.ref (85 : Nat)), .mk (PyData.keyHash P "feed") (.str "feed" (389 : Nat)) (.ref (92 : Nat)), .mk (PyData.keyHash P "_maxlengths") (.str "_maxlengths" (396 : Nat)) (.ref (99 : Nat)), .mk (PyData.keyHash P "_ascii_split") (.str "_ascii_split" (408 : Nat)) (.ref (106 : Nat)), .mk (PyData.keyHash P "_append_chunk") (.str "_append_chunk" (422 : Nat)) (.ref (113 : Nat)), .mk (PyData.keyHash P "__static_attributes__") (.str "__static_attributes__" (429 : Nat)) (.ref (114 : Nat))] 13) #[]
noncomputable def o125 (P : Params) : Obj := ok 78 P
noncomputable def o157 (P : Params) : Obj := ok 110 P
noncomputable def o109 (P : Params) : Obj := tmpl (ok 64 P)
noncomputable def o141 (P : Params) : Obj := .mk .none (none : Option Nat) (.fields #[]) #[]
noncomputable def o168 (P : Params) : Obj := .mk (.type "dict") (none : Option Nat) (.dict #[.mk (PyData.keyHash P "__name__") (.str "__name__" (165 : Nat)) (.str "cpy313.email.header" (289 : Nat)), .mk (PyData.keyHash P "__doc__") (.str "__doc__" (166 : Nat)) .none, .mk (PyData.keyHash P "__package__") (.str "__package__" (167 : Nat)) .none, .mk (PyData.keyHash P "__loader__") (.str "__loader__" (168 : Nat)) (.builtin "__main__.__loader__#opaque"), .mk (PyData.keyHash P "__spec__") (.str "__spec__" (169 : Nat)) .none, .mk (PyData.keyHash P "__annotations__") (.str "__annotations__" (170 : Nat)) (.ref (6 : Nat)), .mk (PyData.keyHash P "__builtins__") (.str "__builtins__" (171 : Nat)) (.ref (4 : Nat)), .mk (PyData.keyHash P "__file__") (.str "__file__" (173 : Nat)) (.str "/claim/cut.py" (172 : Nat)), .mk (PyData.keyHash P "__cached__") (.str "__cached__" (174 : Nat)) .none, .mk (PyData.keyHash P "_sre") (.str "_sre" (275 : Nat)) (.ref (12 : Nat)), .mk (PyData.keyHash P "_wall") (.str "_wall" (288 : Nat)) (.ref (38 : Nat)), .mk (PyData.keyHash P "_twin_re_1") (.str "_twin_re_1" (318 : Nat)) (.ref (43 : Nat)), .mk (PyData.keyHash P "NL") (.str "NL" (320 : Nat)) (.str "\n" (319 : Nat)), .mk (PyData.keyHash P "EMPTYSTRING") (.str "EMPTYSTRING" (322 : Nat)) (.str "" (321 : Nat)), .mk (PyData.keyHash P "_ValueFormatter") (.str "_ValueFormatter" (436 : Nat)) (.ref (116 : Nat)), .mk (PyData.keyHash P "_Accumulator") (.str "_Accumulator" (532 : Nat)) (.ref (200 : Nat))] 16) #[]
noncomputable def o176 (P : Params) : Obj := .mk (.type "code") (none : Option Nat) (.fields #[.str "_Accumulator" (439 : Nat), .str "_Accumulator" (440 : Nat), .str "/claim/cut.py" (441 : Nat), .int 100 (0 : Nat), .int 0 (0 : Nat), .int 0 (0 : Nat), .int 0 (0 : Nat), .int 0 (0 : Nat), .ref (125 : Nat), .bool .false, .int 276 (0 : Nat), .ref (126 : Nat), .none, .none, .none, .none, .int 442 (0 : Nat), .int 100 (0 : Nat), .str "/claim/cut.py" (443 : Nat)]) #[]
noncomputable def o240 (P : Params) : Obj := ok 191 P
noncomputable def o208 (P : Params) : Obj := ok 159 P
noncomputable def o192 (P : Params) : Obj := ok 143 P
noncomputable def o224 (P : Params) : Obj := ok 175 P
noncomputable def o184 (P : Params) : Obj := tmpl (ok 137 P)
noncomputable def o248 (P : Params) : Obj := ok 199 P
noncomputable def o216 (P : Params) : Obj := ok 167 P
noncomputable def o200 (P : Params) : Obj := ok 151 P
noncomputable def o232 (P : Params) : Obj := ok 183 P
noncomputable def o180 (P : Params) : Obj := ok 131 P
noncomputable def o244 (P : Params) : Obj := tmpl (ok 197 P)
noncomputable def o212 (P : Params) : Obj := ok 163 P
noncomputable def o196 (P : Params) : Obj := .mk .none (none : Option Nat) (.fields #[]) #[]
noncomputable def o228 (P : Params) : Obj := ok 179 P
noncomputable def o188 (P : Params) : Obj := .mk .none (none : Option Nat) (.fields #[]) #[]
noncomputable def o252 (P : Params) : Obj := .mk (.type "super") (none : Option Nat) (.fields #[.ref (200 : Nat), .ref (200 : Nat), .ref (200 : Nat)]) #[]
noncomputable def o220 (P : Params) : Obj := ok 171 P
noncomputable def o204 (P : Params) : Obj := .mk .none (none : Option Nat) (.fields #[]) #[]
noncomputable def o172 (P : Params) : Obj := .mk (.type "dict") (none : Option Nat) (.dict #[.mk (PyData.keyHash P "__module__") (.str "__module__" (444 : Nat)) (.str "cpy313.email.header" (289 : Nat)), .mk (PyData.keyHash P "__qualname__") (.str "__qualname__" (446 : Nat)) (.str "_Accumulator" (445 : Nat)), .mk (PyData.keyHash P "__firstlineno__") (.str "__firstlineno__" (448 : Nat)) (.int 100 (447 : Nat)), .mk (PyData.keyHash P "__init__") (.str "__init__" (458 : Nat)) (.ref (137 : Nat)), .mk (PyData.keyHash P "push") (.str "push" (467 : Nat)) (.ref (144 : Nat)), .mk (PyData.keyHash P "pop_from") (.str "pop_from" (477 : Nat)) (.ref (152 : Nat)), .mk (PyData.keyHash P "pop") (.str "pop" (485 : Nat)) (.ref (160 : Nat)), .mk (PyData.keyHash P "__len__") (.str "__len__" (492 : Nat)) (.ref (167 : Nat)), .mk (PyData.keyHash P "__str__") (.str "__str__" (499 : Nat)) (.ref (174 : Nat)), .mk (PyData.keyHash P "reset") (.str "reset" (507 : Nat)) (.ref (182 : Nat)), .mk (PyData.keyHash P "is_onlyws") (.str "is_onlyws" (514 : Nat)) (.ref (189 : Nat)), .mk (PyData.keyHash P "part_count") (.str "part_count" (522 : Nat)) (.ref (197 : Nat)), .mk (PyData.keyHash P "__static_attributes__") (.str "__static_attributes__" (524 : Nat)) (.ref (198 : Nat)), .mk (PyData.keyHash P "__classcell__") (.str "__classcell__" (525 : Nat)) (.ref (124 : Nat))] 14) #[]
noncomputable def o236 (P : Params) : Obj := tmpl (ok 189 P)
noncomputable def o178 (P : Params) : Obj := ok 129 P
noncomputable def o242 (P : Params) : Obj := ok 193 P
noncomputable def o210 (P : Params) : Obj := ok 161 P
noncomputable def o194 (P : Params) : Obj := ok 145 P
noncomputable def o226 (P : Params) : Obj := .mk .none (none : Option Nat) (.fields #[]) #[]
noncomputable def o186 (P : Params) : Obj := ok 137 P
noncomputable def o250 (P : Params) : Obj := ok 201 P
noncomputable def o218 (P : Params) : Obj := .mk .none (none : Option Nat) (.fields #[]) #[]
noncomputable def o202 (P : Params) : Obj := ok 153 P
noncomputable def o170 (P : Params) : Obj := ok 121 P
noncomputable def o234 (P : Params) : Obj := ok 185 P
noncomputable def o182 (P : Params) : Obj := ok 133 P
noncomputable def o246 (P : Params) : Obj := ok 197 P
noncomputable def o214 (P : Params) : Obj := tmpl (ok 167 P)
noncomputable def o198 (P : Params) : Obj := ok 149 P
noncomputable def o230 (P : Params) : Obj := ok 181 P
noncomputable def o169 (P : Params) : Obj := .mk .none (none : Option Nat) (.fields #[.int 2 (0 : Nat), .int 0 (0 : Nat), .ref (37 : Nat), .int 9 (0 : Nat), .int 0 (0 : Nat), .ref (49 : Nat), .int 100 (0 : Nat), .int 0 (0 : Nat), .ref (127 : Nat)]) #[]
noncomputable def o190 (P : Params) : Obj := ok 141 P
noncomputable def o222 (P : Params) : Obj := ok 173 P
noncomputable def o206 (P : Params) : Obj := ok 157 P
noncomputable def o174 (P : Params) : Obj := .mk (.type "tuple") (none : Option Nat) (.seq #[] 0) #[]
noncomputable def o238 (P : Params) : Obj := ok 189 P
noncomputable def o177 (P : Params) : Obj := .mk (.type "frame") (none : Option Nat) .plain #[some (.ref (127 : Nat)), some (.ref (3 : Nat)), some (.ref (123 : Nat)), none, some (.str "cpy313.email.header" (289 : Nat)), none, some (.ref (0 : Nat))]
noncomputable def o241 (P : Params) : Obj := .mk .none (none : Option Nat) (.fields #[]) #[]
noncomputable def o209 (P : Params) : Obj := ok 160 P
noncomputable def o193 (P : Params) : Obj := ok 144 P
noncomputable def o225 (P : Params) : Obj := ok 176 P
noncomputable def o185 (P : Params) : Obj := ok 136 P
noncomputable def o249 (P : Params) : Obj := ok 200 P
noncomputable def o217 (P : Params) : Obj := ok 168 P
noncomputable def o201 (P : Params) : Obj := ok 152 P
noncomputable def o233 (P : Params) : Obj := .mk .none (none : Option Nat) (.fields #[]) #[]
noncomputable def o181 (P : Params) : Obj := .mk .none (none : Option Nat) (.fields #[]) #[]
noncomputable def o245 (P : Params) : Obj := ok 196 P
noncomputable def o213 (P : Params) : Obj := ok 164 P
noncomputable def o197 (P : Params) : Obj := ok 148 P
noncomputable def o229 (P : Params) : Obj := tmpl (ok 182 P)
noncomputable def o189 (P : Params) : Obj := ok 140 P
noncomputable def o253 (P : Params) : Obj := .mk (.type "builtin_function_or_method") (none : Option Nat) (.fields #[.builtin "object.__init_subclass__", .ref (200 : Nat)]) #[]
noncomputable def o221 (P : Params) : Obj := tmpl (ok 174 P)
noncomputable def o205 (P : Params) : Obj := ok 156 P
noncomputable def o173 (P : Params) : Obj := ok 124 P
noncomputable def o237 (P : Params) : Obj := ok 188 P
noncomputable def o179 (P : Params) : Obj := ok 130 P
noncomputable def o243 (P : Params) : Obj := ok 194 P
noncomputable def o211 (P : Params) : Obj := .mk .none (none : Option Nat) (.fields #[]) #[]
noncomputable def o195 (P : Params) : Obj := ok 146 P
noncomputable def o227 (P : Params) : Obj := ok 178 P
noncomputable def o187 (P : Params) : Obj := ok 138 P
noncomputable def o251 (P : Params) : Obj := ok 202 P
noncomputable def o219 (P : Params) : Obj := ok 170 P
noncomputable def o203 (P : Params) : Obj := ok 154 P
noncomputable def o171 (P : Params) : Obj := .mk (.type "builtin_function_or_method") (none : Option Nat) (.fields #[.builtin "type.__prepare__", .type "type"]) #[]
noncomputable def o235 (P : Params) : Obj := ok 186 P
noncomputable def o183 (P : Params) : Obj := ok 134 P
noncomputable def o247 (P : Params) : Obj := ok 198 P
noncomputable def o215 (P : Params) : Obj := ok 166 P
noncomputable def o199 (P : Params) : Obj := tmpl (ok 152 P)
noncomputable def o231 (P : Params) : Obj := ok 182 P
noncomputable def o191 (P : Params) : Obj := tmpl (ok 144 P)
noncomputable def o223 (P : Params) : Obj := ok 174 P
noncomputable def o207 (P : Params) : Obj := tmpl (ok 160 P)
noncomputable def o175 (P : Params) : Obj := .mk .none (none : Option Nat) (.fields #[.int 102 (0 : Nat), .int 4 (0 : Nat), .ref (136 : Nat), .int 106 (0 : Nat), .int 4 (0 : Nat), .ref (143 : Nat), .int 109 (0 : Nat), .int 4 (0 : Nat), .ref (151 : Nat), .int 114 (0 : Nat), .int 4 (0 : Nat), .ref (159 : Nat), .int 119 (0 : Nat), .int 4 (0 : Nat), .ref (166 : Nat), .int 122 (0 : Nat), .int 4 (0 : Nat), .ref (173 : Nat), .int 125 (0 : Nat), .int 4 (0 : Nat), .ref (181 : Nat), .int 131 (0 : Nat), .int 4 (0 : Nat), .ref (188 : Nat), .int 134 (0 : Nat), .int 4 (0 : Nat), .ref (196 : Nat)]) #[]
noncomputable def o239 (P : Params) : Obj := ok 190 P
noncomputable def o255 (P : Params) : Obj := .mk (.type "dict") (none : Option Nat) (.dict #[.mk (PyData.keyHash P "__name__") (.str "__name__" (165 : Nat)) (.str "cpy313.ftplib" (533 : Nat)), .mk (PyData.keyHash P "__doc__") (.str "__doc__" (166 : Nat)) .none, .mk (PyData.keyHash P "__package__") (.str "__package__" (167 : Nat)) .none, .mk (PyData.keyHash P "__loader__") (.str "__loader__" (168 : Nat)) (.builtin "__main__.__loader__#opaque"), .mk (PyData.keyHash P "__spec__") (.str "__spec__" (169 : Nat)) .none, .mk (PyData.keyHash P "__annotations__") (.str "__annotations__" (170 : Nat)) (.ref (6 : Nat)), .mk (PyData.keyHash P "__builtins__") (.str "__builtins__" (171 : Nat)) (.ref (4 : Nat)), .mk (PyData.keyHash P "__file__") (.str "__file__" (173 : Nat)) (.str "/claim/cut.py" (172 : Nat)), .mk (PyData.keyHash P "__cached__") (.str "__cached__" (174 : Nat)) .none, .mk (PyData.keyHash P "_sre") (.str "_sre" (275 : Nat)) (.ref (12 : Nat)), .mk (PyData.keyHash P "_wall") (.str "_wall" (288 : Nat)) (.ref (38 : Nat)), .mk (PyData.keyHash P "_twin_re_1") (.str "_twin_re_1" (318 : Nat)) (.ref (43 : Nat)), .mk (PyData.keyHash P "NL") (.str "NL" (320 : Nat)) (.str "\n" (319 : Nat)), .mk (PyData.keyHash P "EMPTYSTRING") (.str "EMPTYSTRING" (322 : Nat)) (.str "" (321 : Nat)), .mk (PyData.keyHash P "_ValueFormatter") (.str "_ValueFormatter" (436 : Nat)) (.ref (116 : Nat)), .mk (PyData.keyHash P "_Accumulator") (.str "_Accumulator" (532 : Nat)) (.ref (200 : Nat)), .mk (PyData.keyHash P "Error") (.str "Error" (554 : Nat)) (.ref (214 : Nat))] 17) #[]
noncomputable def o259 (P : Params) : Obj := .mk (.type "dict") (none : Option Nat) (.dict #[.mk (PyData.keyHash P "__module__") (.str "__module__" (542 : Nat)) (.str "cpy313.ftplib" (533 : Nat)), .mk (PyData.keyHash P "__qualname__") (.str "__qualname__" (544 : Nat)) (.str "Error" (543 : Nat)), .mk (PyData.keyHash P "__firstlineno__") (.str "__firstlineno__" (546 : Nat)) (.int 137 (545 : Nat)), .mk (PyData.keyHash P "__static_attributes__") (.str "__static_attributes__" (547 : Nat)) (.ref (212 : Nat))] 4) #[]
noncomputable def o267 (P : Params) : Obj := ok 215 P
noncomputable def o263 (P : Params) : Obj := .mk (.type "frame") (none : Option Nat) .plain #[some (.ref (210 : Nat)), some (.ref (3 : Nat)), some (.ref (207 : Nat)), none, some (.str "cpy313.ftplib" (533 : Nat)), none, some (.ref (0 : Nat))]
noncomputable def o261 (P : Params) : Obj := .mk .none (none : Option Nat) (.fields #[]) #[]
noncomputable def o269 (P : Params) : Obj := .mk (.type "builtin_function_or_method") (none : Option Nat) (.fields #[.builtin "object.__init_subclass__", .ref (214 : Nat)]) #[]
noncomputable def o265 (P : Params) : Obj := ok 213 P
noncomputable def o256 (P : Params) : Obj := .mk .none (none : Option Nat) (.fields #[.int 2 (0 : Nat), .int 0 (0 : Nat), .ref (37 : Nat), .int 9 (0 : Nat), .int 0 (0 : Nat), .ref (49 : Nat), .int 100 (0 : Nat), .int 0 (0 : Nat), .ref (127 : Nat), .int 137 (0 : Nat), .int 0 (0 : Nat), .ref (210 : Nat)]) #[]
noncomputable def o257 (P : Params) : Obj := ok 205 P
noncomputable def o254 (P : Params) : Obj := ok 2 P
noncomputable def o260 (P : Params) : Obj := .mk (.type "tuple") (none : Option Nat) (.seq #[] 0) #[]
noncomputable def o268 (P : Params) : Obj := .mk (.type "super") (none : Option Nat) (.fields #[.ref (214 : Nat), .ref (214 : Nat), .ref (214 : Nat)]) #[]
noncomputable def o264 (P : Params) : Obj := ok 212 P
noncomputable def o262 (P : Params) : Obj := .mk (.type "code") (none : Option Nat) (.fields #[.str "Error" (537 : Nat), .str "Error" (538 : Nat), .str "/claim/cut.py" (539 : Nat), .int 137 (0 : Nat), .int 0 (0 : Nat), .int 0 (0 : Nat), .int 0 (0 : Nat), .int 0 (0 : Nat), .ref (208 : Nat), .bool .false, .int 276 (0 : Nat), .ref (209 : Nat), .none, .none, .none, .none, .int 540 (0 : Nat), .int 137 (0 : Nat), .str "/claim/cut.py" (541 : Nat)]) #[]
noncomputable def o266 (P : Params) : Obj := .mk (.type "type") (none : Option Nat) (.cls (.mk "Error" [.type "Exception"] [.ref (214 : Nat), .type "Exception", .type "BaseException", .type "object"] (213 : Nat) "Error" .true [] [] .false none .false)) #[some (.ref (205 : Nat)), none, some (.str "Error" (535 : Nat)), some (.str "Error" (543 : Nat)), some (.builtin "Exception.__new__"), some (.bool .true)]
noncomputable def o258 (P : Params) : Obj := .mk (.type "builtin_function_or_method") (none : Option Nat) (.fields #[.builtin "type.__prepare__", .type "type"]) #[]
noncomputable def o270 (P : Params) : Obj := .mk (.type "dict") (none : Option Nat) (.dict #[.mk (PyData.keyHash P "__name__") (.str "__name__" (165 : Nat)) (.str "cpy313.ftplib" (533 : Nat)), .mk (PyData.keyHash P "__doc__") (.str "__doc__" (166 : Nat)) .none, .mk (PyData.keyHash P "__package__") (.str "__package__" (167 : Nat)) .none, .mk (PyData.keyHash P "__loader__") (.str "__loader__" (168 : Nat)) (.builtin "__main__.__loader__#opaque"), .mk (PyData.keyHash P "__spec__") (.str "__spec__" (169 : Nat)) .none, .mk (PyData.keyHash P "__annotations__") (.str "__annotations__" (170 : Nat)) (.ref (6 : Nat)), .mk (PyData.keyHash P "__builtins__") (.str "__builtins__" (171 : Nat)) (.ref (4 : Nat)), .mk (PyData.keyHash P "__file__") (.str "__file__" (173 : Nat)) (.str "/claim/cut.py" (172 : Nat)), .mk (PyData.keyHash P "__cached__") (.str "__cached__" (174 : Nat)) .none, .mk (PyData.keyHash P "_sre") (.str "_sre" (275 : Nat)) (.ref (12 : Nat)), .mk (PyData.keyHash P "_wall") (.str "_wall" (288 : Nat)) (.ref (38 : Nat)), .mk (PyData.keyHash P "_twin_re_1") (.str "_twin_re_1" (318 : Nat)) (.ref (43 : Nat)), .mk (PyData.keyHash P "NL") (.str "NL" (320 : Nat)) (.str "\n" (319 : Nat)), .mk (PyData.keyHash P "EMPTYSTRING") (.str "EMPTYSTRING" (322 : Nat)) (.str "" (321 : Nat)), .mk (PyData.keyHash P "_ValueFormatter") (.str "_ValueFormatter" (436 : Nat)) (.ref (116 : Nat)), .mk (PyData.keyHash P "_Accumulator") (.str "_Accumulator" (532 : Nat)) (.ref (200 : Nat)), .mk (PyData.keyHash P "Error") (.str "Error" (554 : Nat)) (.ref (214 : Nat)), .mk (PyData.keyHash P "error_reply") (.str "error_reply" (570 : Nat)) (.ref (227 : Nat))] 18) #[]
noncomputable def o278 (P : Params) : Obj := .mk (.type "code") (none : Option Nat) (.fields #[.str "error_reply" (557 : Nat), .str "error_reply" (558 : Nat), .str "/claim/cut.py" (559 : Nat), .int 139 (0 : Nat), .int 0 (0 : Nat), .int 0 (0 : Nat), .int 0 (0 : Nat), .int 0 (0 : Nat), .ref (221 : Nat), .bool .false, .int 276 (0 : Nat), .ref (222 : Nat), .none, .none, .none, .none, .int 560 (0 : Nat), .int 139 (0 : Nat), .str "/claim/cut.py" (561 : Nat)]) #[]
noncomputable def o282 (P : Params) : Obj := ok 227 P
noncomputable def o274 (P : Params) : Obj := .mk (.type "builtin_function_or_method") (none : Option Nat) (.fields #[.builtin "type.__prepare__", .type "type"]) #[]
noncomputable def o280 (P : Params) : Obj := ok 225 P
noncomputable def o284 (P : Params) : Obj := .mk (.type "builtin_function_or_method") (none : Option Nat) (.fields #[.builtin "object.__init_subclass__", .ref (227 : Nat)]) #[]
noncomputable def o271 (P : Params) : Obj := .mk .none (none : Option Nat) (.fields #[.int 2 (0 : Nat), .int 0 (0 : Nat), .ref (37 : Nat), .int 9 (0 : Nat), .int 0 (0 : Nat), .ref (49 : Nat), .int 100 (0 : Nat), .int 0 (0 : Nat), .ref (127 : Nat), .int 137 (0 : Nat), .int 0 (0 : Nat), .ref (210 : Nat), .int 139 (0 : Nat), .int 0 (0 : Nat), .ref (223 : Nat)]) #[]
noncomputable def o276 (P : Params) : Obj := .mk (.type "tuple") (none : Option Nat) (.seq #[] 0) #[]
noncomputable def o279 (P : Params) : Obj := .mk (.type "frame") (none : Option Nat) .plain #[some (.ref (223 : Nat)), some (.ref (3 : Nat)), some (.ref (220 : Nat)), none, some (.str "cpy313.ftplib" (533 : Nat)), none, some (.ref (0 : Nat))]
noncomputable def o283 (P : Params) : Obj := .mk (.type "super") (none : Option Nat) (.fields #[.ref (227 : Nat), .ref (227 : Nat), .ref (227 : Nat)]) #[]
noncomputable def o275 (P : Params) : Obj := .mk (.type "dict") (none : Option Nat) (.dict #[.mk (PyData.keyHash P "__module__") (.str "__module__" (562 : Nat)) (.str "cpy313.ftplib" (533 : Nat)), .mk (PyData.keyHash P "__qualname__") (.str "__qualname__" (564 : Nat)) (.str "error_reply" (563 : Nat)), .mk (PyData.keyHash P "__firstlineno__") (.str "__firstlineno__" (566 : Nat)) (.int 139 (565 : Nat)), .mk (PyData.keyHash P "__static_attributes__") (.str "__static_attributes__" (567 : Nat)) (.ref (225 : Nat))] 4) #[]
noncomputable def o281 (P : Params) : Obj := ok 226 P
noncomputable def o273 (P : Params) : Obj := ok 218 P
noncomputable def o272 (P : Params) : Obj := .mk (.type "type") (none : Option Nat) (.cls (.mk "Error" [.type "Exception"] [.ref (214 : Nat), .type "Exception", .type "BaseException", .type "object"] (213 : Nat) "Error" .true [] [.ref (227 : Nat)] .false none .false)) #[some (.ref (205 : Nat)), none, some (.str "Error" (535 : Nat)), some (.str "Error" (543 : Nat)), some (.builtin "Exception.__new__"), some (.bool .true)]
noncomputable def o277 (P : Params) : Obj := .mk .none (none : Option Nat) (.fields #[]) #[]
noncomputable def o285 (P : Params) : Obj := .mk (.type "dict") (none : Option Nat) (.dict #[.mk (PyData.keyHash P "__name__") (.str "__name__" (165 : Nat)) (.str "cpy313.netrc" (621 : Nat)), .mk (PyData.keyHash P "__doc__") (.str "__doc__" (166 : Nat)) .none, .mk (PyData.keyHash P "__package__") (.str "__package__" (167 : Nat)) .none, .mk (PyData.keyHash P "__loader__") (.str "__loader__" (168 : Nat)) (.builtin "__main__.__loader__#opaque"), .mk (PyData.keyHash P "__spec__") (.str "__spec__" (169 : Nat)) .none, .mk (PyData.keyHash P "__annotations__") (.str "__annotations__" (170 : Nat)) (.ref (6 : Nat)), .mk (PyData.keyHash P "__builtins__") (.str "__builtins__" (171 : Nat)) (.ref (4 : Nat)), .mk (PyData.keyHash P "__file__") (.str "__file__" (173 : Nat)) (.str "/claim/cut.py" (172 : Nat)), .mk (PyData.keyHash P "__cached__") (.str "__cached__" (174 : Nat)) .none, .mk (PyData.keyHash P "_sre") (.str "_sre" (275 : Nat)) (.ref (12 : Nat)), .mk (PyData.keyHash P "_wall") (.str "_wall" (288 : Nat)) (.ref (38 : Nat)), .mk (PyData.keyHash P "_twin_re_1") (.str "_twin_re_1" (318 : Nat)) (.ref (43 : Nat)), .mk (PyData.keyHash P "NL") (.str "NL" (320 : Nat)) (.str "\n" (319 : Nat)), .mk (PyData.keyHash P "EMPTYSTRING") (.str "EMPTYSTRING" (322 : Nat)) (.str "" (321 : Nat)), .mk (PyData.keyHash P "_ValueFormatter") (.str "_ValueFormatter" (436 : Nat)) (.ref (116 : Nat)), .mk (PyData.keyHash P "_Accumulator") (.str "_Accumulator" (532 : Nat)) (.ref (200 : Nat)), .mk (PyData.keyHash P "Error") (.str "Error" (554 : Nat)) (.ref (214 : Nat)), .mk (PyData.keyHash P "error_reply") (.str "error_reply" (570 : Nat)) (.ref (227 : Nat)), .mk (PyData.keyHash P "error_proto") (.str "error_proto" (586 : Nat)) (.ref (239 : Nat)), .mk (PyData.keyHash P "parse229") (.str "parse229" (599 : Nat)) (.ref (248 : Nat)), .mk (PyData.keyHash P "parse257") (.str "parse257" (610 : Nat)) (.ref (255 : Nat)), .mk (PyData.keyHash P "_strcoll") (.str "_strcoll" (620 : Nat)) (.ref (262 : Nat))] 22) #[]
noncomputable def o313 (P : Params) : Obj := ok 255 P
noncomputable def o297 (P : Params) : Obj := ok 239 P
noncomputable def o289 (P : Params) : Obj := .mk (.type "builtin_function_or_method") (none : Option Nat) (.fields #[.builtin "type.__prepare__", .type "type"]) #[]
noncomputable def o305 (P : Params) : Obj := ok 247 P
noncomputable def o317 (P : Params) : Obj := ok 259 P
noncomputable def o301 (P : Params) : Obj := .mk .none (none : Option Nat) (.fields #[]) #[]
noncomputable def o293 (P : Params) : Obj := .mk (.type "code") (none : Option Nat) (.fields #[.str "error_proto" (573 : Nat), .str "error_proto" (574 : Nat), .str "/claim/cut.py" (575 : Nat), .int 141 (0 : Nat), .int 0 (0 : Nat), .int 0 (0 : Nat), .int 0 (0 : Nat), .int 0 (0 : Nat), .ref (233 : Nat), .bool .false, .int 276 (0 : Nat), .ref (234 : Nat), .none, .none, .none, .none, .int 576 (0 : Nat), .int 141 (0 : Nat), .str "/claim/cut.py" (577 : Nat)]) #[]
noncomputable def o309 (P : Params) : Obj := ok 251 P
noncomputable def o315 (P : Params) : Obj := .mk .none (none : Option Nat) (.fields #[]) #[]
noncomputable def o299 (P : Params) : Obj := .mk (.type "builtin_function_or_method") (none : Option Nat) (.fields #[.builtin "object.__init_subclass__", .ref (239 : Nat)]) #[]
noncomputable def o291 (P : Params) : Obj := .mk (.type "tuple") (none : Option Nat) (.seq #[] 0) #[]
noncomputable def o307 (P : Params) : Obj := ok 249 P
noncomputable def o319 (P : Params) : Obj := ok 261 P
noncomputable def o303 (P : Params) : Obj := ok 245 P
noncomputable def o286 (P : Params) : Obj := .mk .none (none : Option Nat) (.fields #[.int 2 (0 : Nat), .int 0 (0 : Nat), .ref (37 : Nat), .int 9 (0 : Nat), .int 0 (0 : Nat), .ref (49 : Nat), .int 100 (0 : Nat), .int 0 (0 : Nat), .ref (127 : Nat), .int 137 (0 : Nat), .int 0 (0 : Nat), .ref (210 : Nat), .int 139 (0 : Nat), .int 0 (0 : Nat), .ref (223 : Nat), .int 141 (0 : Nat), .int 0 (0 : Nat), .ref (235 : Nat), .int 143 (0 : Nat), .int 0 (0 : Nat), .ref (247 : Nat), .int 160 (0 : Nat), .int 0 (0 : Nat), .ref (254 : Nat), .int 178 (0 : Nat), .int 0 (0 : Nat), .ref (261 : Nat)]) #[]
noncomputable def o295 (P : Params) : Obj := ok 237 P
noncomputable def o311 (P : Params) : Obj := tmpl (ok 255 P)
noncomputable def o314 (P : Params) : Obj := ok 256 P
noncomputable def o298 (P : Params) : Obj := .mk (.type "super") (none : Option Nat) (.fields #[.ref (239 : Nat), .ref (239 : Nat), .ref (239 : Nat)]) #[]
noncomputable def o290 (P : Params) : Obj := .mk (.type "dict") (none : Option Nat) (.dict #[.mk (PyData.keyHash P "__module__") (.str "__module__" (578 : Nat)) (.str "cpy313.ftplib" (533 : Nat)), .mk (PyData.keyHash P "__qualname__") (.str "__qualname__" (580 : Nat)) (.str "error_proto" (579 : Nat)), .mk (PyData.keyHash P "__firstlineno__") (.str "__firstlineno__" (582 : Nat)) (.int 141 (581 : Nat)), .mk (PyData.keyHash P "__static_attributes__") (.str "__static_attributes__" (583 : Nat)) (.ref (237 : Nat))] 4) #[]
noncomputable def o306 (P : Params) : Obj := ok 248 P
noncomputable def o318 (P : Params) : Obj := tmpl (ok 262 P)
noncomputable def o302 (P : Params) : Obj := ok 244 P
noncomputable def o294 (P : Params) : Obj := .mk (.type "frame") (none : Option Nat) .plain #[some (.ref (235 : Nat)), some (.ref (3 : Nat)), some (.ref (232 : Nat)), none, some (.str "cpy313.ftplib" (533 : Nat)), none, some (.ref (0 : Nat))]
noncomputable def o310 (P : Params) : Obj := ok 252 P
noncomputable def o316 (P : Params) : Obj := ok 258 P
noncomputable def o300 (P : Params) : Obj := ok 242 P
noncomputable def o292 (P : Params) : Obj := .mk .none (none : Option Nat) (.fields #[]) #[]
noncomputable def o308 (P : Params) : Obj := .mk .none (none : Option Nat) (.fields #[]) #[]
noncomputable def o320 (P : Params) : Obj := ok 262 P
noncomputable def o288 (P : Params) : Obj := ok 230 P
noncomputable def o287 (P : Params) : Obj := ok 214 P
noncomputable def o304 (P : Params) : Obj := tmpl (ok 248 P)
noncomputable def o296 (P : Params) : Obj := ok 238 P
noncomputable def o312 (P : Params) : Obj := ok 254 P
noncomputable def o321 (P : Params) : Obj := .mk (.type "dict") (none : Option Nat) (.dict #[.mk (PyData.keyHash P "__name__") (.str "__name__" (165 : Nat)) (.str "law_wu0089_01" (681 : Nat)), .mk (PyData.keyHash P "__doc__") (.str "__doc__" (166 : Nat)) .none, .mk (PyData.keyHash P "__package__") (.str "__package__" (167 : Nat)) .none, .mk (PyData.keyHash P "__loader__") (.str "__loader__" (168 : Nat)) (.builtin "__main__.__loader__#opaque"), .mk (PyData.keyHash P "__spec__") (.str "__spec__" (169 : Nat)) .none, .mk (PyData.keyHash P "__annotations__") (.str "__annotations__" (170 : Nat)) (.ref (6 : Nat)), .mk (PyData.keyHash P "__builtins__") (.str "__builtins__" (171 : Nat)) (.ref (4 : Nat)), .mk (PyData.keyHash P "__file__") (.str "__file__" (173 : Nat)) (.str "/claim/cut.py" (172 : Nat)), .mk (PyData.keyHash P "__cached__") (.str "__cached__" (174 : Nat)) .none, .mk (PyData.keyHash P "_sre") (.str "_sre" (275 : Nat)) (.ref (12 : Nat)), .mk (PyData.keyHash P "_wall") (.str "_wall" (288 : Nat)) (.ref (38 : Nat)), .mk (PyData.keyHash P "_twin_re_1") (.str "_twin_re_1" (318 : Nat)) (.ref (43 : Nat)), .mk (PyData.keyHash P "NL") (.str "NL" (320 : Nat)) (.str "\n" (319 : Nat)), .mk (PyData.keyHash P "EMPTYSTRING") (.str "EMPTYSTRING" (322 : Nat)) (.str "" (321 : Nat)), .mk (PyData.keyHash P "_ValueFormatter") (.str "_ValueFormatter" (436 : Nat)) (.ref (116 : Nat)), .mk (PyData.keyHash P "_Accumulator") (.str "_Accumulator" (532 : Nat)) (.ref (200 : Nat)), .mk (PyData.keyHash P "Error") (.str "Error" (554 : Nat)) (.ref (214 : Nat)), .mk (PyData.keyHash P "error_reply") (.str "error_reply" (570 : Nat)) (.ref (227 : Nat)), .mk (PyData.keyHash P "error_proto") (.str "error_proto" (586 : Nat)) (.ref (239 : Nat)), .mk (PyData.keyHash P "parse229") (.str "parse229" (599 : Nat)) (.ref (248 : Nat)), .mk (PyData.keyHash P "parse257") (.str "parse257" (610 : Nat)) (.ref (255 : Nat)), .mk (PyData.keyHash P "_strcoll") (.str "_strcoll" (620 : Nat)) (.ref (262 : Nat)), .mk (PyData.keyHash P "_netrclex") (.str "_netrclex" (680 : Nat)) (.ref (300 : Nat)), .mk (PyData.keyHash P "_law_lexer") (.str "_law_lexer" (691 : Nat)) (.ref (311 : Nat)), .mk (PyData.keyHash P "_law_operand") (.str "_law_operand" (697 : Nat)) (.ref (316 : Nat))] 25) #[]
noncomputable def o347 (P : Params) : Obj := ok 287 P
noncomputable def o331 (P : Params) : Obj := .mk .none (none : Option Nat) (.fields #[]) #[]
noncomputable def o363 (P : Params) : Obj := .mk (.type "super") (none : Option Nat) (.fields #[.ref (300 : Nat), .ref (300 : Nat), .ref (300 : Nat)]) #[]
noncomputable def o323 (P : Params) : Obj := .mk (.type "tuple") (none : Option Nat) (.seq #[] 0) #[]
noncomputable def o355 (P : Params) : Obj := tmpl (ok 297 P)
noncomputable def o339 (P : Params) : Obj := ok 279 P
noncomputable def o371 (P : Params) : Obj := ok 311 P
noncomputable def o351 (P : Params) : Obj := ok 291 P
noncomputable def o335 (P : Params) : Obj := ok 275 P
noncomputable def o367 (P : Params) : Obj := ok 307 P
noncomputable def o327 (P : Params) : Obj := .mk .none (none : Option Nat) (.fields #[.int 183 (0 : Nat), .int 4 (0 : Nat), .ref (275 : Nat), .int 189 (0 : Nat), .int 4 (0 : Nat), .ref (282 : Nat), .int 195 (0 : Nat), .int 4 (0 : Nat), .ref (289 : Nat), .int 222 (0 : Nat), .int 4 (0 : Nat), .ref (296 : Nat)]) #[]
noncomputable def o359 (P : Params) : Obj := ok 299 P
noncomputable def o343 (P : Params) : Obj := ok 283 P
noncomputable def o375 (P : Params) : Obj := ok 315 P
noncomputable def o349 (P : Params) : Obj := ok 289 P
noncomputable def o333 (P : Params) : Obj := ok 273 P
noncomputable def o365 (P : Params) : Obj := ok 305 P
noncomputable def o325 (P : Params) : Obj := .mk (.type "dict") (none : Option Nat) (.dict #[.mk (PyData.keyHash P "__module__") (.str "__module__" (630 : Nat)) (.str "cpy313.netrc" (621 : Nat)), .mk (PyData.keyHash P "__qualname__") (.str "__qualname__" (632 : Nat)) (.str "_netrclex" (631 : Nat)), .mk (PyData.keyHash P "__firstlineno__") (.str "__firstlineno__" (634 : Nat)) (.int 181 (633 : Nat)), .mk (PyData.keyHash P "__init__") (.str "__init__" (642 : Nat)) (.ref (276 : Nat)), .mk (PyData.keyHash P "_read_char") (.str "_read_char" (650 : Nat)) (.ref (283 : Nat)), .mk (PyData.keyHash P "get_token") (.str "get_token" (660 : Nat)) (.ref (290 : Nat)), .mk (PyData.keyHash P "push_token") (.str "push_token" (668 : Nat)) (.ref (297 : Nat)), .mk (PyData.keyHash P "__static_attributes__") (.str "__static_attributes__" (673 : Nat)) (.ref (298 : Nat))] 8) #[]
noncomputable def o357 (P : Params) : Obj := ok 297 P
noncomputable def o341 (P : Params) : Obj := tmpl (ok 283 P)
noncomputable def o373 (P : Params) : Obj := .mk .none (none : Option Nat) (.fields #[]) #[]
noncomputable def o353 (P : Params) : Obj := ok 293 P
noncomputable def o337 (P : Params) : Obj := ok 277 P
noncomputable def o369 (P : Params) : Obj := tmpl (ok 311 P)
noncomputable def o322 (P : Params) : Obj := .mk .none (none : Option Nat) (.fields #[.int 2 (0 : Nat), .int 0 (0 : Nat), .ref (37 : Nat), .int 9 (0 : Nat), .int 0 (0 : Nat), .ref (49 : Nat), .int 100 (0 : Nat), .int 0 (0 : Nat), .ref (127 : Nat), .int 137 (0 : Nat), .int 0 (0 : Nat), .ref (210 : Nat), .int 139 (0 : Nat), .int 0 (0 : Nat), .ref (223 : Nat), .int 141 (0 : Nat), .int 0 (0 : Nat), .ref (235 : Nat), .int 143 (0 : Nat), .int 0 (0 : Nat), .ref (247 : Nat), .int 160 (0 : Nat), .int 0 (0 : Nat), .ref (254 : Nat), .int 178 (0 : Nat), .int 0 (0 : Nat), .ref (261 : Nat), .int 181 (0 : Nat), .int 0 (0 : Nat), .ref (268 : Nat), .int 225 (0 : Nat), .int 0 (0 : Nat), .ref (310 : Nat), .int 230 (0 : Nat), .int 0 (0 : Nat), .ref (315 : Nat)]) #[]
noncomputable def o329 (P : Params) : Obj := .mk (.type "frame") (none : Option Nat) .plain #[some (.ref (268 : Nat)), some (.ref (3 : Nat)), some (.ref (265 : Nat)), none, some (.str "cpy313.netrc" (621 : Nat)), none, some (.ref (0 : Nat))]
noncomputable def o361 (P : Params) : Obj := ok 301 P
noncomputable def o345 (P : Params) : Obj := .mk .none (none : Option Nat) (.fields #[]) #[]
noncomputable def o348 (P : Params) : Obj := tmpl (ok 290 P)
noncomputable def o332 (P : Params) : Obj := ok 272 P
noncomputable def o364 (P : Params) : Obj := .mk (.type "builtin_function_or_method") (none : Option Nat) (.fields #[.builtin "object.__init_subclass__", .ref (300 : Nat)]) #[]
noncomputable def o324 (P : Params) : Obj := .mk (.type "builtin_function_or_method") (none : Option Nat) (.fields #[.builtin "type.__prepare__", .type "type"]) #[]
noncomputable def o356 (P : Params) : Obj := ok 296 P
noncomputable def o340 (P : Params) : Obj := ok 280 P
noncomputable def o372 (P : Params) : Obj := ok 312 P
noncomputable def o352 (P : Params) : Obj := .mk .none (none : Option Nat) (.fields #[]) #[]
noncomputable def o336 (P : Params) : Obj := ok 276 P
noncomputable def o368 (P : Params) : Obj := ok 308 P
noncomputable def o328 (P : Params) : Obj := .mk (.type "code") (none : Option Nat) (.fields #[.str "_netrclex" (625 : Nat), .str "_netrclex" (626 : Nat), .str "/claim/cut.py" (627 : Nat), .int 181 (0 : Nat), .int 0 (0 : Nat), .int 0 (0 : Nat), .int 0 (0 : Nat), .int 0 (0 : Nat), .ref (266 : Nat), .bool .false, .int 276 (0 : Nat), .ref (267 : Nat), .none, .none, .none, .none, .int 628 (0 : Nat), .int 181 (0 : Nat), .str "/claim/cut.py" (629 : Nat)]) #[]
noncomputable def o360 (P : Params) : Obj := ok 300 P
noncomputable def o344 (P : Params) : Obj := ok 284 P
noncomputable def o376 (P : Params) : Obj := ok 316 P
noncomputable def o350 (P : Params) : Obj := ok 290 P
noncomputable def o334 (P : Params) : Obj := tmpl (ok 276 P)
noncomputable def o366 (P : Params) : Obj := .mk .none (none : Option Nat) (.fields #[]) #[]
noncomputable def o326 (P : Params) : Obj := .mk (.type "tuple") (none : Option Nat) (.seq #[] 0) #[]
noncomputable def o358 (P : Params) : Obj := ok 298 P
noncomputable def o342 (P : Params) : Obj := ok 282 P
noncomputable def o374 (P : Params) : Obj := tmpl (ok 316 P)
noncomputable def o354 (P : Params) : Obj := ok 294 P
noncomputable def o338 (P : Params) : Obj := .mk .none (none : Option Nat) (.fields #[]) #[]
noncomputable def o370 (P : Params) : Obj := ok 310 P
noncomputable def o330 (P : Params) : Obj := ok 270 P
noncomputable def o362 (P : Params) : Obj := ok 302 P
noncomputable def o346 (P : Params) : Obj := ok 286 P
noncomputable def o377 (P : Params) : Obj := ok 3 P
noncomputable def o381 (P : Params) : Obj := ok 319 P
noncomputable def o397 (P : Params) : Obj := tmpl (ok 337 P)
noncomputable def o389 (P : Params) : Obj := ok 327 P
noncomputable def o385 (P : Params) : Obj := ok 323 P
noncomputable def o401 (P : Params) : Obj := .mk .none (none : Option Nat) (.fields #[]) #[]
noncomputable def o393 (P : Params) : Obj := ok 331 P
noncomputable def o383 (P : Params) : Obj := tmpl (ok 323 P)
noncomputable def o399 (P : Params) : Obj := ok 337 P
noncomputable def o391 (P : Params) : Obj := ok 329 P
noncomputable def o387 (P : Params) : Obj := .mk .none (none : Option Nat) (.fields #[]) #[]
noncomputable def o403 (P : Params) : Obj := ok 341 P
noncomputable def o378 (P : Params) : Obj := .mk .none (none : Option Nat) (.fields #[.int 2 (0 : Nat), .int 0 (0 : Nat), .ref (37 : Nat), .int 9 (0 : Nat), .int 0 (0 : Nat), .ref (49 : Nat), .int 100 (0 : Nat), .int 0 (0 : Nat), .ref (127 : Nat), .int 137 (0 : Nat), .int 0 (0 : Nat), .ref (210 : Nat), .int 139 (0 : Nat), .int 0 (0 : Nat), .ref (223 : Nat), .int 141 (0 : Nat), .int 0 (0 : Nat), .ref (235 : Nat), .int 143 (0 : Nat), .int 0 (0 : Nat), .ref (247 : Nat), .int 160 (0 : Nat), .int 0 (0 : Nat), .ref (254 : Nat), .int 178 (0 : Nat), .int 0 (0 : Nat), .ref (261 : Nat), .int 181 (0 : Nat), .int 0 (0 : Nat), .ref (268 : Nat), .int 225 (0 : Nat), .int 0 (0 : Nat), .ref (310 : Nat), .int 230 (0 : Nat), .int 0 (0 : Nat), .ref (315 : Nat), .int 243 (0 : Nat), .int 0 (0 : Nat), .ref (322 : Nat), .int 259 (0 : Nat), .int 0 (0 : Nat), .ref (329 : Nat), .int 272 (0 : Nat), .int 0 (0 : Nat), .ref (336 : Nat), .int 295 (0 : Nat), .int 0 (0 : Nat), .ref (341 : Nat)]) #[]
noncomputable def o395 (P : Params) : Obj := ok 333 P
noncomputable def o379 (P : Params) : Obj := ok 317 P
noncomputable def o382 (P : Params) : Obj := ok 320 P
noncomputable def o398 (P : Params) : Obj := ok 336 P
noncomputable def o390 (P : Params) : Obj := tmpl (ok 330 P)
noncomputable def o386 (P : Params) : Obj := ok 324 P
noncomputable def o402 (P : Params) : Obj := tmpl (ok 342 P)
noncomputable def o394 (P : Params) : Obj := .mk .none (none : Option Nat) (.fields #[]) #[]
noncomputable def o384 (P : Params) : Obj := ok 322 P
noncomputable def o400 (P : Params) : Obj := ok 338 P
noncomputable def o392 (P : Params) : Obj := ok 330 P
noncomputable def o388 (P : Params) : Obj := ok 326 P
noncomputable def o404 (P : Params) : Obj := ok 342 P
noncomputable def o396 (P : Params) : Obj := ok 334 P
noncomputable def o380 (P : Params) : Obj := .mk .none (none : Option Nat) (.fields #[]) #[]
noncomputable def T73 (P : Params) : BT := (.node (o41 P) (.node (o42 P) (.node (o44 P) (.node (o48 P) (.node (o56 P) (.node (o72 P) .nil .nil) .nil) (.node (o64 P) .nil .nil)) (.node (o52 P) (.node (o60 P) .nil .nil) (.node (o68 P) .nil .nil))) (.node (o46 P) (.node (o50 P) (.node (o58 P) .nil .nil) (.node (o66 P) .nil .nil)) (.node (o54 P) (.node (o62 P) .nil .nil) (.node (o70 P) .nil .nil)))) (.node (o43 P) (.node (o45 P) (.node (o49 P) (.node (o57 P) .nil .nil) (.node (o65 P) .nil .nil)) (.node (o53 P) (.node (o61 P) .nil .nil) (.node (o69 P) .nil .nil))) (.node (o47 P) (.node (o51 P) (.node (o59 P) .nil .nil) (.node (o67 P) .nil .nil)) (.node (o55 P) (.node (o63 P) .nil .nil) (.node (o71 P) .nil .nil)))))
noncomputable def T88 (P : Params) : BT := (.node (o41 P) (.node (o42 P) (.node (o75 P) (.node (o48 P) (.node (o56 P) (.node (o72 P) .nil .nil) .nil) (.node (o64 P) (.node (o84 P) .nil .nil) .nil)) (.node (o52 P) (.node (o60 P) (.node (o80 P) .nil .nil) .nil) (.node (o68 P) (.node (o88 P) .nil .nil) .nil))) (.node (o46 P) (.node (o50 P) (.node (o58 P) (.node (o78 P) .nil .nil) .nil) (.node (o66 P) (.node (o86 P) .nil .nil) .nil)) (.node (o54 P) (.node (o62 P) (.node (o82 P) .nil .nil) .nil) (.node (o76 P) .nil .nil)))) (.node (o43 P) (.node (o45 P) (.node (o49 P) (.node (o57 P) (.node (o77 P) .nil .nil) .nil) (.node (o65 P) (.node (o85 P) .nil .nil) .nil)) (.node (o53 P) (.node (o61 P) (.node (o81 P) .nil .nil) .nil) (.node (o69 P) .nil .nil))) (.node (o47 P) (.node (o51 P) (.node (o59 P) (.node (o79 P) .nil .nil) .nil) (.node (o67 P) (.node (o87 P) .nil .nil) .nil)) (.node (o55 P) (.node (o63 P) (.node (o83 P) .nil .nil) .nil) (.node (o71 P) .nil .nil)))))
noncomputable def T167 (P : Params) : BT := (.node (o41 P) (.node (o42 P) (.node (o89 P) (.node (o48 P) (.node (o56 P) (.node (o72 P) (.node (o110 P) .nil .nil) (.node (o142 P) .nil .nil)) (.node (o94 P) (.node (o126 P) .nil .nil) (.node (o158 P) .nil .nil))) (.node (o64 P) (.node (o84 P) (.node (o118 P) .nil .nil) (.node (o150 P) .nil .nil)) (.node (o102 P) (.node (o134 P) .nil .nil) (.node (o166 P) .nil .nil)))) (.node (o52 P) (.node (o60 P) (.node (o80 P) (.node (o114 P) .nil .nil) (.node (o146 P) .nil .nil)) (.node (o98 P) (.node (o130 P) .nil .nil) (.node (o162 P) .nil .nil))) (.node (o68 P) (.node (o88 P) (.node (o122 P) .nil .nil) (.node (o154 P) .nil .nil)) (.node (o106 P) (.node (o138 P) .nil .nil) .nil)))) (.node (o46 P) (.node (o50 P) (.node (o58 P) (.node (o78 P) (.node (o112 P) .nil .nil) (.node (o144 P) .nil .nil)) (.node (o96 P) (.node (o128 P) .nil .nil) (.node (o160 P) .nil .nil))) (.node (o66 P) (.node (o86 P) (.node (o120 P) .nil .nil) (.node (o152 P) .nil .nil)) (.node (o104 P) (.node (o136 P) .nil .nil) .nil))) (.node (o54 P) (.node (o62 P) (.node (o82 P) (.node (o116 P) .nil .nil) (.node (o148 P) .nil .nil)) (.node (o100 P) (.node (o132 P) .nil .nil) (.node (o164 P) .nil .nil))) (.node (o90 P) (.node (o92 P) (.node (o124 P) .nil .nil) (.node (o156 P) .nil .nil)) (.node (o108 P) (.node (o140 P) .nil .nil) .nil))))) (.node (o43 P) (.node (o45 P) (.node (o49 P) (.node (o57 P) (.node (o77 P) (.node (o111 P) .nil .nil) (.node (o143 P) .nil .nil)) (.node (o95 P) (.node (o127 P) .nil .nil) (.node (o159 P) .nil .nil))) (.node (o65 P) (.node (o85 P) (.node (o119 P) .nil .nil) (.node (o151 P) .nil .nil)) (.node (o103 P) (.node (o135 P) .nil .nil) (.node (o167 P) .nil .nil)))) (.node (o53 P) (.node (o61 P) (.node (o81 P) (.node (o115 P) .nil .nil) (.node (o147 P) .nil .nil)) (.node (o99 P) (.node (o131 P) .nil .nil) (.node (o163 P) .nil .nil))) (.node (o69 P) (.node (o91 P) (.node (o123 P) .nil .nil) (.node (o155 P) .nil .nil)) (.node (o107 P) (.node (o139 P) .nil .nil) .nil)))) (.node (o47 P) (.node (o51 P) (.node (o59 P) (.node (o79 P) (.node (o113 P) .nil .nil) (.node (o145 P) .nil .nil)) (.node (o97 P) (.node (o129 P) .nil .nil) (.node (o161 P) .nil .nil))) (.node (o67 P) (.node (o87 P) (.node (o121 P) .nil .nil) (.node (o153 P) .nil .nil)) (.node (o105 P) (.node (o137 P) .nil .nil) .nil))) (.node (o55 P) (.node (o63 P) (.node (o83 P) (.node (o117 P) .nil .nil) (.node (o149 P) .nil .nil)) (.node (o101 P) (.node (o133 P) .nil .nil) (.node (o165 P) .nil .nil))) (.node (o71 P) (.node (o93 P) (.node (o125 P) .nil .nil) (.node (o157 P) .nil .nil)) (.node (o109 P) (.node (o141 P) .nil .nil) .nil))))))
noncomputable def T253 (P : Params) : BT := (.node (o41 P) (.node (o42 P) (.node (o168 P) (.node (o48 P) (.node (o56 P) (.node (o72 P) (.node (o110 P) (.node (o176 P) .nil .nil) (.node (o240 P) .nil .nil)) (.node (o142 P) (.node (o208 P) .nil .nil) .nil)) (.node (o94 P) (.node (o126 P) (.node (o192 P) .nil .nil) .nil) (.node (o158 P) (.node (o224 P) .nil .nil) .nil))) (.node (o64 P) (.node (o84 P) (.node (o118 P) (.node (o184 P) .nil .nil) (.node (o248 P) .nil .nil)) (.node (o150 P) (.node (o216 P) .nil .nil) .nil)) (.node (o102 P) (.node (o134 P) (.node (o200 P) .nil .nil) .nil) (.node (o166 P) (.node (o232 P) .nil .nil) .nil)))) (.node (o52 P) (.node (o60 P) (.node (o80 P) (.node (o114 P) (.node (o180 P) .nil .nil) (.node (o244 P) .nil .nil)) (.node (o146 P) (.node (o212 P) .nil .nil) .nil)) (.node (o98 P) (.node (o130 P) (.node (o196 P) .nil .nil) .nil) (.node (o162 P) (.node (o228 P) .nil .nil) .nil))) (.node (o68 P) (.node (o88 P) (.node (o122 P) (.node (o188 P) .nil .nil) (.node (o252 P) .nil .nil)) (.node (o154 P) (.node (o220 P) .nil .nil) .nil)) (.node (o106 P) (.node (o138 P) (.node (o204 P) .nil .nil) .nil) (.node (o172 P) (.node (o236 P) .nil .nil) .nil))))) (.node (o46 P) (.node (o50 P) (.node (o58 P) (.node (o78 P) (.node (o112 P) (.node (o178 P) .nil .nil) (.node (o242 P) .nil .nil)) (.node (o144 P) (.node (o210 P) .nil .nil) .nil)) (.node (o96 P) (.node (o128 P) (.node (o194 P) .nil .nil) .nil) (.node (o160 P) (.node (o226 P) .nil .nil) .nil))) (.node (o66 P) (.node (o86 P) (.node (o120 P) (.node (o186 P) .nil .nil) (.node (o250 P) .nil .nil)) (.node (o152 P) (.node (o218 P) .nil .nil) .nil)) (.node (o104 P) (.node (o136 P) (.node (o202 P) .nil .nil) .nil) (.node (o170 P) (.node (o234 P) .nil .nil) .nil)))) (.node (o54 P) (.node (o62 P) (.node (o82 P) (.node (o116 P) (.node (o182 P) .nil .nil) (.node (o246 P) .nil .nil)) (.node (o148 P) (.node (o214 P) .nil .nil) .nil)) (.node (o100 P) (.node (o132 P) (.node (o198 P) .nil .nil) .nil) (.node (o164 P) (.node (o230 P) .nil .nil) .nil))) (.node (o169 P) (.node (o92 P) (.node (o124 P) (.node (o190 P) .nil .nil) .nil) (.node (o156 P) (.node (o222 P) .nil .nil) .nil)) (.node (o108 P) (.node (o140 P) (.node (o206 P) .nil .nil) .nil) (.node (o174 P) (.node (o238 P) .nil .nil) .nil)))))) (.node (o43 P) (.node (o45 P) (.node (o49 P) (.node (o57 P) (.node (o77 P) (.node (o111 P) (.node (o177 P) .nil .nil) (.node (o241 P) .nil .nil)) (.node (o143 P) (.node (o209 P) .nil .nil) .nil)) (.node (o95 P) (.node (o127 P) (.node (o193 P) .nil .nil) .nil) (.node (o159 P) (.node (o225 P) .nil .nil) .nil))) (.node (o65 P) (.node (o85 P) (.node (o119 P) (.node (o185 P) .nil .nil) (.node (o249 P) .nil .nil)) (.node (o151 P) (.node (o217 P) .nil .nil) .nil)) (.node (o103 P) (.node (o135 P) (.node (o201 P) .nil .nil) .nil) (.node (o167 P) (.node (o233 P) .nil .nil) .nil)))) (.node (o53 P) (.node (o61 P) (.node (o81 P) (.node (o115 P) (.node (o181 P) .nil .nil) (.node (o245 P) .nil .nil)) (.node (o147 P) (.node (o213 P) .nil .nil) .nil)) (.node (o99 P) (.node (o131 P) (.node (o197 P) .nil .nil) .nil) (.node (o163 P) (.node (o229 P) .nil .nil) .nil))) (.node (o69 P) (.node (o91 P) (.node (o123 P) (.node (o189 P) .nil .nil) (.node (o253 P) .nil .nil)) (.node (o155 P) (.node (o221 P) .nil .nil) .nil)) (.node (o107 P) (.node (o139 P) (.node (o205 P) .nil .nil) .nil) (.node (o173 P) (.node (o237 P) .nil .nil) .nil))))) (.node (o47 P) (.node (o51 P) (.node (o59 P) (.node (o79 P) (.node (o113 P) (.node (o179 P) .nil .nil) (.node (o243 P) .nil .nil)) (.node (o145 P) (.node (o211 P) .nil .nil) .nil)) (.node (o97 P) (.node (o129 P) (.node (o195 P) .nil .nil) .nil) (.node (o161 P) (.node (o227 P) .nil .nil) .nil))) (.node (o67 P) (.node (o87 P) (.node (o121 P) (.node (o187 P) .nil .nil) (.node (o251 P) .nil .nil)) (.node (o153 P) (.node (o219 P) .nil .nil) .nil)) (.node (o105 P) (.node (o137 P) (.node (o203 P) .nil .nil) .nil) (.node (o171 P) (.node (o235 P) .nil .nil) .nil)))) (.node (o55 P) (.node (o63 P) (.node (o83 P) (.node (o117 P) (.node (o183 P) .nil .nil) (.node (o247 P) .nil .nil)) (.node (o149 P) (.node (o215 P) .nil .nil) .nil)) (.node (o101 P) (.node (o133 P) (.node (o199 P) .nil .nil) .nil) (.node (o165 P) (.node (o231 P) .nil .nil) .nil))) (.node (o71 P) (.node (o93 P) (.node (o125 P) (.node (o191 P) .nil .nil) .nil) (.node (o157 P) (.node (o223 P) .nil .nil) .nil)) (.node (o109 P) (.node (o141 P) (.node (o207 P) .nil .nil) .nil) (.node (o175 P) (.node (o239 P) .nil .nil) .nil)))))))
noncomputable def T269 (P : Params) : BT := (.node (o41 P) (.node (o42 P) (.node (o255 P) (.node (o48 P) (.node (o56 P) (.node (o72 P) (.node (o110 P) (.node (o176 P) .nil .nil) (.node (o240 P) .nil .nil)) (.node (o142 P) (.node (o208 P) .nil .nil) .nil)) (.node (o94 P) (.node (o126 P) (.node (o192 P) .nil .nil) (.node (o259 P) .nil .nil)) (.node (o158 P) (.node (o224 P) .nil .nil) .nil))) (.node (o64 P) (.node (o84 P) (.node (o118 P) (.node (o184 P) .nil .nil) (.node (o248 P) .nil .nil)) (.node (o150 P) (.node (o216 P) .nil .nil) .nil)) (.node (o102 P) (.node (o134 P) (.node (o200 P) .nil .nil) (.node (o267 P) .nil .nil)) (.node (o166 P) (.node (o232 P) .nil .nil) .nil)))) (.node (o52 P) (.node (o60 P) (.node (o80 P) (.node (o114 P) (.node (o180 P) .nil .nil) (.node (o244 P) .nil .nil)) (.node (o146 P) (.node (o212 P) .nil .nil) .nil)) (.node (o98 P) (.node (o130 P) (.node (o196 P) .nil .nil) (.node (o263 P) .nil .nil)) (.node (o162 P) (.node (o228 P) .nil .nil) .nil))) (.node (o68 P) (.node (o88 P) (.node (o122 P) (.node (o188 P) .nil .nil) (.node (o252 P) .nil .nil)) (.node (o154 P) (.node (o220 P) .nil .nil) .nil)) (.node (o106 P) (.node (o138 P) (.node (o204 P) .nil .nil) .nil) (.node (o172 P) (.node (o236 P) .nil .nil) .nil))))) (.node (o46 P) (.node (o50 P) (.node (o58 P) (.node (o78 P) (.node (o112 P) (.node (o178 P) .nil .nil) (.node (o242 P) .nil .nil)) (.node (o144 P) (.node (o210 P) .nil .nil) .nil)) (.node (o96 P) (.node (o128 P) (.node (o194 P) .nil .nil) (.node (o261 P) .nil .nil)) (.node (o160 P) (.node (o226 P) .nil .nil) .nil))) (.node (o66 P) (.node (o86 P) (.node (o120 P) (.node (o186 P) .nil .nil) (.node (o250 P) .nil .nil)) (.node (o152 P) (.node (o218 P) .nil .nil) .nil)) (.node (o104 P) (.node (o136 P) (.node (o202 P) .nil .nil) (.node (o269 P) .nil .nil)) (.node (o170 P) (.node (o234 P) .nil .nil) .nil)))) (.node (o54 P) (.node (o62 P) (.node (o82 P) (.node (o116 P) (.node (o182 P) .nil .nil) (.node (o246 P) .nil .nil)) (.node (o148 P) (.node (o214 P) .nil .nil) .nil)) (.node (o100 P) (.node (o132 P) (.node (o198 P) .nil .nil) (.node (o265 P) .nil .nil)) (.node (o164 P) (.node (o230 P) .nil .nil) .nil))) (.node (o256 P) (.node (o92 P) (.node (o124 P) (.node (o190 P) .nil .nil) (.node (o257 P) .nil .nil)) (.node (o156 P) (.node (o222 P) .nil .nil) .nil)) (.node (o108 P) (.node (o140 P) (.node (o206 P) .nil .nil) .nil) (.node (o174 P) (.node (o238 P) .nil .nil) .nil)))))) (.node (o254 P) (.node (o45 P) (.node (o49 P) (.node (o57 P) (.node (o77 P) (.node (o111 P) (.node (o177 P) .nil .nil) (.node (o241 P) .nil .nil)) (.node (o143 P) (.node (o209 P) .nil .nil) .nil)) (.node (o95 P) (.node (o127 P) (.node (o193 P) .nil .nil) (.node (o260 P) .nil .nil)) (.node (o159 P) (.node (o225 P) .nil .nil) .nil))) (.node (o65 P) (.node (o85 P) (.node (o119 P) (.node (o185 P) .nil .nil) (.node (o249 P) .nil .nil)) (.node (o151 P) (.node (o217 P) .nil .nil) .nil)) (.node (o103 P) (.node (o135 P) (.node (o201 P) .nil .nil) (.node (o268 P) .nil .nil)) (.node (o167 P) (.node (o233 P) .nil .nil) .nil)))) (.node (o53 P) (.node (o61 P) (.node (o81 P) (.node (o115 P) (.node (o181 P) .nil .nil) (.node (o245 P) .nil .nil)) (.node (o147 P) (.node (o213 P) .nil .nil) .nil)) (.node (o99 P) (.node (o131 P) (.node (o197 P) .nil .nil) (.node (o264 P) .nil .nil)) (.node (o163 P) (.node (o229 P) .nil .nil) .nil))) (.node (o69 P) (.node (o91 P) (.node (o123 P) (.node (o189 P) .nil .nil) (.node (o253 P) .nil .nil)) (.node (o155 P) (.node (o221 P) .nil .nil) .nil)) (.node (o107 P) (.node (o139 P) (.node (o205 P) .nil .nil) .nil) (.node (o173 P) (.node (o237 P) .nil .nil) .nil))))) (.node (o47 P) (.node (o51 P) (.node (o59 P) (.node (o79 P) (.node (o113 P) (.node (o179 P) .nil .nil) (.node (o243 P) .nil .nil)) (.node (o145 P) (.node (o211 P) .nil .nil) .nil)) (.node (o97 P) (.node (o129 P) (.node (o195 P) .nil .nil) (.node (o262 P) .nil .nil)) (.node (o161 P) (.node (o227 P) .nil .nil) .nil))) (.node (o67 P) (.node (o87 P) (.node (o121 P) (.node (o187 P) .nil .nil) (.node (o251 P) .nil .nil)) (.node (o153 P) (.node (o219 P) .nil .nil) .nil)) (.node (o105 P) (.node (o137 P) (.node (o203 P) .nil .nil) .nil) (.node (o171 P) (.node (o235 P) .nil .nil) .nil)))) (.node (o55 P) (.node (o63 P) (.node (o83 P) (.node (o117 P) (.node (o183 P) .nil .nil) (.node (o247 P) .nil .nil)) (.node (o149 P) (.node (o215 P) .nil .nil) .nil)) (.node (o101 P) (.node (o133 P) (.node (o199 P) .nil .nil) (.node (o266 P) .nil .nil)) (.node (o165 P) (.node (o231 P) .nil .nil) .nil))) (.node (o71 P) (.node (o93 P) (.node (o125 P) (.node (o191 P) .nil .nil) (.node (o258 P) .nil .nil)) (.node (o157 P) (.node (o223 P) .nil .nil) .nil)) (.node (o109 P) (.node (o141 P) (.node (o207 P) .nil .nil) .nil) (.node (o175 P) (.node (o239 P) .nil .nil) .nil)))))))
noncomputable def T284 (P : Params) : BT := (.node (o41 P) (.node (o42 P) (.node (o270 P) (.node (o48 P) (.node (o56 P) (.node (o72 P) (.node (o110 P) (.node (o176 P) .nil .nil) (.node (o240 P) .nil .nil)) (.node (o142 P) (.node (o208 P) .nil .nil) (.node (o278 P) .nil .nil))) (.node (o94 P) (.node (o126 P) (.node (o192 P) .nil .nil) (.node (o259 P) .nil .nil)) (.node (o158 P) (.node (o224 P) .nil .nil) .nil))) (.node (o64 P) (.node (o84 P) (.node (o118 P) (.node (o184 P) .nil .nil) (.node (o248 P) .nil .nil)) (.node (o150 P) (.node (o216 P) .nil .nil) .nil)) (.node (o102 P) (.node (o134 P) (.node (o200 P) .nil .nil) (.node (o267 P) .nil .nil)) (.node (o166 P) (.node (o232 P) .nil .nil) .nil)))) (.node (o52 P) (.node (o60 P) (.node (o80 P) (.node (o114 P) (.node (o180 P) .nil .nil) (.node (o244 P) .nil .nil)) (.node (o146 P) (.node (o212 P) .nil .nil) (.node (o282 P) .nil .nil))) (.node (o98 P) (.node (o130 P) (.node (o196 P) .nil .nil) (.node (o263 P) .nil .nil)) (.node (o162 P) (.node (o228 P) .nil .nil) .nil))) (.node (o68 P) (.node (o88 P) (.node (o122 P) (.node (o188 P) .nil .nil) (.node (o252 P) .nil .nil)) (.node (o154 P) (.node (o220 P) .nil .nil) .nil)) (.node (o106 P) (.node (o138 P) (.node (o204 P) .nil .nil) (.node (o274 P) .nil .nil)) (.node (o172 P) (.node (o236 P) .nil .nil) .nil))))) (.node (o46 P) (.node (o50 P) (.node (o58 P) (.node (o78 P) (.node (o112 P) (.node (o178 P) .nil .nil) (.node (o242 P) .nil .nil)) (.node (o144 P) (.node (o210 P) .nil .nil) (.node (o280 P) .nil .nil))) (.node (o96 P) (.node (o128 P) (.node (o194 P) .nil .nil) (.node (o261 P) .nil .nil)) (.node (o160 P) (.node (o226 P) .nil .nil) .nil))) (.node (o66 P) (.node (o86 P) (.node (o120 P) (.node (o186 P) .nil .nil) (.node (o250 P) .nil .nil)) (.node (o152 P) (.node (o218 P) .nil .nil) .nil)) (.node (o104 P) (.node (o136 P) (.node (o202 P) .nil .nil) (.node (o269 P) .nil .nil)) (.node (o170 P) (.node (o234 P) .nil .nil) .nil)))) (.node (o54 P) (.node (o62 P) (.node (o82 P) (.node (o116 P) (.node (o182 P) .nil .nil) (.node (o246 P) .nil .nil)) (.node (o148 P) (.node (o214 P) .nil .nil) (.node (o284 P) .nil .nil))) (.node (o100 P) (.node (o132 P) (.node (o198 P) .nil .nil) (.node (o265 P) .nil .nil)) (.node (o164 P) (.node (o230 P) .nil .nil) .nil))) (.node (o271 P) (.node (o92 P) (.node (o124 P) (.node (o190 P) .nil .nil) (.node (o257 P) .nil .nil)) (.node (o156 P) (.node (o222 P) .nil .nil) .nil)) (.node (o108 P) (.node (o140 P) (.node (o206 P) .nil .nil) (.node (o276 P) .nil .nil)) (.node (o174 P) (.node (o238 P) .nil .nil) .nil)))))) (.node (o254 P) (.node (o45 P) (.node (o49 P) (.node (o57 P) (.node (o77 P) (.node (o111 P) (.node (o177 P) .nil .nil) (.node (o241 P) .nil .nil)) (.node (o143 P) (.node (o209 P) .nil .nil) (.node (o279 P) .nil .nil))) (.node (o95 P) (.node (o127 P) (.node (o193 P) .nil .nil) (.node (o260 P) .nil .nil)) (.node (o159 P) (.node (o225 P) .nil .nil) .nil))) (.node (o65 P) (.node (o85 P) (.node (o119 P) (.node (o185 P) .nil .nil) (.node (o249 P) .nil .nil)) (.node (o151 P) (.node (o217 P) .nil .nil) .nil)) (.node (o103 P) (.node (o135 P) (.node (o201 P) .nil .nil) (.node (o268 P) .nil .nil)) (.node (o167 P) (.node (o233 P) .nil .nil) .nil)))) (.node (o53 P) (.node (o61 P) (.node (o81 P) (.node (o115 P) (.node (o181 P) .nil .nil) (.node (o245 P) .nil .nil)) (.node (o147 P) (.node (o213 P) .nil .nil) (.node (o283 P) .nil .nil))) (.node (o99 P) (.node (o131 P) (.node (o197 P) .nil .nil) (.node (o264 P) .nil .nil)) (.node (o163 P) (.node (o229 P) .nil .nil) .nil))) (.node (o69 P) (.node (o91 P) (.node (o123 P) (.node (o189 P) .nil .nil) (.node (o253 P) .nil .nil)) (.node (o155 P) (.node (o221 P) .nil .nil) .nil)) (.node (o107 P) (.node (o139 P) (.node (o205 P) .nil .nil) (.node (o275 P) .nil .nil)) (.node (o173 P) (.node (o237 P) .nil .nil) .nil))))) (.node (o47 P) (.node (o51 P) (.node (o59 P) (.node (o79 P) (.node (o113 P) (.node (o179 P) .nil .nil) (.node (o243 P) .nil .nil)) (.node (o145 P) (.node (o211 P) .nil .nil) (.node (o281 P) .nil .nil))) (.node (o97 P) (.node (o129 P) (.node (o195 P) .nil .nil) (.node (o262 P) .nil .nil)) (.node (o161 P) (.node (o227 P) .nil .nil) .nil))) (.node (o67 P) (.node (o87 P) (.node (o121 P) (.node (o187 P) .nil .nil) (.node (o251 P) .nil .nil)) (.node (o153 P) (.node (o219 P) .nil .nil) .nil)) (.node (o105 P) (.node (o137 P) (.node (o203 P) .nil .nil) (.node (o273 P) .nil .nil)) (.node (o171 P) (.node (o235 P) .nil .nil) .nil)))) (.node (o55 P) (.node (o63 P) (.node (o83 P) (.node (o117 P) (.node (o183 P) .nil .nil) (.node (o247 P) .nil .nil)) (.node (o149 P) (.node (o215 P) .nil .nil) .nil)) (.node (o101 P) (.node (o133 P) (.node (o199 P) .nil .nil) (.node (o272 P) .nil .nil)) (.node (o165 P) (.node (o231 P) .nil .nil) .nil))) (.node (o71 P) (.node (o93 P) (.node (o125 P) (.node (o191 P) .nil .nil) (.node (o258 P) .nil .nil)) (.node (o157 P) (.node (o223 P) .nil .nil) .nil)) (.node (o109 P) (.node (o141 P) (.node (o207 P) .nil .nil) (.node (o277 P) .nil .nil)) (.node (o175 P) (.node (o239 P) .nil .nil) .nil)))))))
noncomputable def T320 (P : Params) : BT := (.node (o41 P) (.node (o42 P) (.node (o285 P) (.node (o48 P) (.node (o56 P) (.node (o72 P) (.node (o110 P) (.node (o176 P) (.node (o313 P) .nil .nil) .nil) (.node (o240 P) .nil .nil)) (.node (o142 P) (.node (o208 P) .nil .nil) (.node (o278 P) .nil .nil))) (.node (o94 P) (.node (o126 P) (.node (o192 P) .nil .nil) (.node (o259 P) .nil .nil)) (.node (o158 P) (.node (o224 P) .nil .nil) (.node (o297 P) .nil .nil)))) (.node (o64 P) (.node (o84 P) (.node (o118 P) (.node (o184 P) .nil .nil) (.node (o248 P) .nil .nil)) (.node (o150 P) (.node (o216 P) .nil .nil) (.node (o289 P) .nil .nil))) (.node (o102 P) (.node (o134 P) (.node (o200 P) .nil .nil) (.node (o267 P) .nil .nil)) (.node (o166 P) (.node (o232 P) .nil .nil) (.node (o305 P) .nil .nil))))) (.node (o52 P) (.node (o60 P) (.node (o80 P) (.node (o114 P) (.node (o180 P) (.node (o317 P) .nil .nil) .nil) (.node (o244 P) .nil .nil)) (.node (o146 P) (.node (o212 P) .nil .nil) (.node (o282 P) .nil .nil))) (.node (o98 P) (.node (o130 P) (.node (o196 P) .nil .nil) (.node (o263 P) .nil .nil)) (.node (o162 P) (.node (o228 P) .nil .nil) (.node (o301 P) .nil .nil)))) (.node (o68 P) (.node (o88 P) (.node (o122 P) (.node (o188 P) .nil .nil) (.node (o252 P) .nil .nil)) (.node (o154 P) (.node (o220 P) .nil .nil) (.node (o293 P) .nil .nil))) (.node (o106 P) (.node (o138 P) (.node (o204 P) .nil .nil) (.node (o274 P) .nil .nil)) (.node (o172 P) (.node (o236 P) .nil .nil) (.node (o309 P) .nil .nil)))))) (.node (o46 P) (.node (o50 P) (.node (o58 P) (.node (o78 P) (.node (o112 P) (.node (o178 P) (.node (o315 P) .nil .nil) .nil) (.node (o242 P) .nil .nil)) (.node (o144 P) (.node (o210 P) .nil .nil) (.node (o280 P) .nil .nil))) (.node (o96 P) (.node (o128 P) (.node (o194 P) .nil .nil) (.node (o261 P) .nil .nil)) (.node (o160 P) (.node (o226 P) .nil .nil) (.node (o299 P) .nil .nil)))) (.node (o66 P) (.node (o86 P) (.node (o120 P) (.node (o186 P) .nil .nil) (.node (o250 P) .nil .nil)) (.node (o152 P) (.node (o218 P) .nil .nil) (.node (o291 P) .nil .nil))) (.node (o104 P) (.node (o136 P) (.node (o202 P) .nil .nil) (.node (o269 P) .nil .nil)) (.node (o170 P) (.node (o234 P) .nil .nil) (.node (o307 P) .nil .nil))))) (.node (o54 P) (.node (o62 P) (.node (o82 P) (.node (o116 P) (.node (o182 P) (.node (o319 P) .nil .nil) .nil) (.node (o246 P) .nil .nil)) (.node (o148 P) (.node (o214 P) .nil .nil) (.node (o284 P) .nil .nil))) (.node (o100 P) (.node (o132 P) (.node (o198 P) .nil .nil) (.node (o265 P) .nil .nil)) (.node (o164 P) (.node (o230 P) .nil .nil) (.node (o303 P) .nil .nil)))) (.node (o286 P) (.node (o92 P) (.node (o124 P) (.node (o190 P) .nil .nil) (.node (o257 P) .nil .nil)) (.node (o156 P) (.node (o222 P) .nil .nil) (.node (o295 P) .nil .nil))) (.node (o108 P) (.node (o140 P) (.node (o206 P) .nil .nil) (.node (o276 P) .nil .nil)) (.node (o174 P) (.node (o238 P) .nil .nil) (.node (o311 P) .nil .nil))))))) (.node (o254 P) (.node (o45 P) (.node (o49 P) (.node (o57 P) (.node (o77 P) (.node (o111 P) (.node (o177 P) (.node (o314 P) .nil .nil) .nil) (.node (o241 P) .nil .nil)) (.node (o143 P) (.node (o209 P) .nil .nil) (.node (o279 P) .nil .nil))) (.node (o95 P) (.node (o127 P) (.node (o193 P) .nil .nil) (.node (o260 P) .nil .nil)) (.node (o159 P) (.node (o225 P) .nil .nil) (.node (o298 P) .nil .nil)))) (.node (o65 P) (.node (o85 P) (.node (o119 P) (.node (o185 P) .nil .nil) (.node (o249 P) .nil .nil)) (.node (o151 P) (.node (o217 P) .nil .nil) (.node (o290 P) .nil .nil))) (.node (o103 P) (.node (o135 P) (.node (o201 P) .nil .nil) (.node (o268 P) .nil .nil)) (.node (o167 P) (.node (o233 P) .nil .nil) (.node (o306 P) .nil .nil))))) (.node (o53 P) (.node (o61 P) (.node (o81 P) (.node (o115 P) (.node (o181 P) (.node (o318 P) .nil .nil) .nil) (.node (o245 P) .nil .nil)) (.node (o147 P) (.node (o213 P) .nil .nil) (.node (o283 P) .nil .nil))) (.node (o99 P) (.node (o131 P) (.node (o197 P) .nil .nil) (.node (o264 P) .nil .nil)) (.node (o163 P) (.node (o229 P) .nil .nil) (.node (o302 P) .nil .nil)))) (.node (o69 P) (.node (o91 P) (.node (o123 P) (.node (o189 P) .nil .nil) (.node (o253 P) .nil .nil)) (.node (o155 P) (.node (o221 P) .nil .nil) (.node (o294 P) .nil .nil))) (.node (o107 P) (.node (o139 P) (.node (o205 P) .nil .nil) (.node (o275 P) .nil .nil)) (.node (o173 P) (.node (o237 P) .nil .nil) (.node (o310 P) .nil .nil)))))) (.node (o47 P) (.node (o51 P) (.node (o59 P) (.node (o79 P) (.node (o113 P) (.node (o179 P) (.node (o316 P) .nil .nil) .nil) (.node (o243 P) .nil .nil)) (.node (o145 P) (.node (o211 P) .nil .nil) (.node (o281 P) .nil .nil))) (.node (o97 P) (.node (o129 P) (.node (o195 P) .nil .nil) (.node (o262 P) .nil .nil)) (.node (o161 P) (.node (o227 P) .nil .nil) (.node (o300 P) .nil .nil)))) (.node (o67 P) (.node (o87 P) (.node (o121 P) (.node (o187 P) .nil .nil) (.node (o251 P) .nil .nil)) (.node (o153 P) (.node (o219 P) .nil .nil) (.node (o292 P) .nil .nil))) (.node (o105 P) (.node (o137 P) (.node (o203 P) .nil .nil) (.node (o273 P) .nil .nil)) (.node (o171 P) (.node (o235 P) .nil .nil) (.node (o308 P) .nil .nil))))) (.node (o55 P) (.node (o63 P) (.node (o83 P) (.node (o117 P) (.node (o183 P) (.node (o320 P) .nil .nil) .nil) (.node (o247 P) .nil .nil)) (.node (o149 P) (.node (o215 P) .nil .nil) (.node (o288 P) .nil .nil))) (.node (o101 P) (.node (o133 P) (.node (o199 P) .nil .nil) (.node (o287 P) .nil .nil)) (.node (o165 P) (.node (o231 P) .nil .nil) (.node (o304 P) .nil .nil)))) (.node (o71 P) (.node (o93 P) (.node (o125 P) (.node (o191 P) .nil .nil) (.node (o258 P) .nil .nil)) (.node (o157 P) (.node (o223 P) .nil .nil) (.node (o296 P) .nil .nil))) (.node (o109 P) (.node (o141 P) (.node (o207 P) .nil .nil) (.node (o277 P) .nil .nil)) (.node (o175 P) (.node (o239 P) .nil .nil) (.node (o312 P) .nil .nil))))))))
noncomputable def T376 (P : Params) : BT := (.node (o41 P) (.node (o42 P) (.node (o321 P) (.node (o48 P) (.node (o56 P) (.node (o72 P) (.node (o110 P) (.node (o176 P) (.node (o313 P) .nil .nil) .nil) (.node (o240 P) .nil .nil)) (.node (o142 P) (.node (o208 P) (.node (o347 P) .nil .nil) .nil) (.node (o278 P) .nil .nil))) (.node (o94 P) (.node (o126 P) (.node (o192 P) (.node (o331 P) .nil .nil) .nil) (.node (o259 P) .nil .nil)) (.node (o158 P) (.node (o224 P) (.node (o363 P) .nil .nil) .nil) (.node (o297 P) .nil .nil)))) (.node (o64 P) (.node (o84 P) (.node (o118 P) (.node (o184 P) (.node (o323 P) .nil .nil) .nil) (.node (o248 P) .nil .nil)) (.node (o150 P) (.node (o216 P) (.node (o355 P) .nil .nil) .nil) (.node (o289 P) .nil .nil))) (.node (o102 P) (.node (o134 P) (.node (o200 P) (.node (o339 P) .nil .nil) .nil) (.node (o267 P) .nil .nil)) (.node (o166 P) (.node (o232 P) (.node (o371 P) .nil .nil) .nil) (.node (o305 P) .nil .nil))))) (.node (o52 P) (.node (o60 P) (.node (o80 P) (.node (o114 P) (.node (o180 P) (.node (o317 P) .nil .nil) .nil) (.node (o244 P) .nil .nil)) (.node (o146 P) (.node (o212 P) (.node (o351 P) .nil .nil) .nil) (.node (o282 P) .nil .nil))) (.node (o98 P) (.node (o130 P) (.node (o196 P) (.node (o335 P) .nil .nil) .nil) (.node (o263 P) .nil .nil)) (.node (o162 P) (.node (o228 P) (.node (o367 P) .nil .nil) .nil) (.node (o301 P) .nil .nil)))) (.node (o68 P) (.node (o88 P) (.node (o122 P) (.node (o188 P) (.node (o327 P) .nil .nil) .nil) (.node (o252 P) .nil .nil)) (.node (o154 P) (.node (o220 P) (.node (o359 P) .nil .nil) .nil) (.node (o293 P) .nil .nil))) (.node (o106 P) (.node (o138 P) (.node (o204 P) (.node (o343 P) .nil .nil) .nil) (.node (o274 P) .nil .nil)) (.node (o172 P) (.node (o236 P) (.node (o375 P) .nil .nil) .nil) (.node (o309 P) .nil .nil)))))) (.node (o46 P) (.node (o50 P) (.node (o58 P) (.node (o78 P) (.node (o112 P) (.node (o178 P) (.node (o315 P) .nil .nil) .nil) (.node (o242 P) .nil .nil)) (.node (o144 P) (.node (o210 P) (.node (o349 P) .nil .nil) .nil) (.node (o280 P) .nil .nil))) (.node (o96 P) (.node (o128 P) (.node (o194 P) (.node (o333 P) .nil .nil) .nil) (.node (o261 P) .nil .nil)) (.node (o160 P) (.node (o226 P) (.node (o365 P) .nil .nil) .nil) (.node (o299 P) .nil .nil)))) (.node (o66 P) (.node (o86 P) (.node (o120 P) (.node (o186 P) (.node (o325 P) .nil .nil) .nil) (.node (o250 P) .nil .nil)) (.node (o152 P) (.node (o218 P) (.node (o357 P) .nil .nil) .nil) (.node (o291 P) .nil .nil))) (.node (o104 P) (.node (o136 P) (.node (o202 P) (.node (o341 P) .nil .nil) .nil) (.node (o269 P) .nil .nil)) (.node (o170 P) (.node (o234 P) (.node (o373 P) .nil .nil) .nil) (.node (o307 P) .nil .nil))))) (.node (o54 P) (.node (o62 P) (.node (o82 P) (.node (o116 P) (.node (o182 P) (.node (o319 P) .nil .nil) .nil) (.node (o246 P) .nil .nil)) (.node (o148 P) (.node (o214 P) (.node (o353 P) .nil .nil) .nil) (.node (o284 P) .nil .nil))) (.node (o100 P) (.node (o132 P) (.node (o198 P) (.node (o337 P) .nil .nil) .nil) (.node (o265 P) .nil .nil)) (.node (o164 P) (.node (o230 P) (.node (o369 P) .nil .nil) .nil) (.node (o303 P) .nil .nil)))) (.node (o322 P) (.node (o92 P) (.node (o124 P) (.node (o190 P) (.node (o329 P) .nil .nil) .nil) (.node (o257 P) .nil .nil)) (.node (o156 P) (.node (o222 P) (.node (o361 P) .nil .nil) .nil) (.node (o295 P) .nil .nil))) (.node (o108 P) (.node (o140 P) (.node (o206 P) (.node (o345 P) .nil .nil) .nil) (.node (o276 P) .nil .nil)) (.node (o174 P) (.node (o238 P) .nil .nil) (.node (o311 P) .nil .nil))))))) (.node (o254 P) (.node (o45 P) (.node (o49 P) (.node (o57 P) (.node (o77 P) (.node (o111 P) (.node (o177 P) (.node (o314 P) .nil .nil) .nil) (.node (o241 P) .nil .nil)) (.node (o143 P) (.node (o209 P) (.node (o348 P) .nil .nil) .nil) (.node (o279 P) .nil .nil))) (.node (o95 P) (.node (o127 P) (.node (o193 P) (.node (o332 P) .nil .nil) .nil) (.node (o260 P) .nil .nil)) (.node (o159 P) (.node (o225 P) (.node (o364 P) .nil .nil) .nil) (.node (o298 P) .nil .nil)))) (.node (o65 P) (.node (o85 P) (.node (o119 P) (.node (o185 P) (.node (o324 P) .nil .nil) .nil) (.node (o249 P) .nil .nil)) (.node (o151 P) (.node (o217 P) (.node (o356 P) .nil .nil) .nil) (.node (o290 P) .nil .nil))) (.node (o103 P) (.node (o135 P) (.node (o201 P) (.node (o340 P) .nil .nil) .nil) (.node (o268 P) .nil .nil)) (.node (o167 P) (.node (o233 P) (.node (o372 P) .nil .nil) .nil) (.node (o306 P) .nil .nil))))) (.node (o53 P) (.node (o61 P) (.node (o81 P) (.node (o115 P) (.node (o181 P) (.node (o318 P) .nil .nil) .nil) (.node (o245 P) .nil .nil)) (.node (o147 P) (.node (o213 P) (.node (o352 P) .nil .nil) .nil) (.node (o283 P) .nil .nil))) (.node (o99 P) (.node (o131 P) (.node (o197 P) (.node (o336 P) .nil .nil) .nil) (.node (o264 P) .nil .nil)) (.node (o163 P) (.node (o229 P) (.node (o368 P) .nil .nil) .nil) (.node (o302 P) .nil .nil)))) (.node (o69 P) (.node (o91 P) (.node (o123 P) (.node (o189 P) (.node (o328 P) .nil .nil) .nil) (.node (o253 P) .nil .nil)) (.node (o155 P) (.node (o221 P) (.node (o360 P) .nil .nil) .nil) (.node (o294 P) .nil .nil))) (.node (o107 P) (.node (o139 P) (.node (o205 P) (.node (o344 P) .nil .nil) .nil) (.node (o275 P) .nil .nil)) (.node (o173 P) (.node (o237 P) (.node (o376 P) .nil .nil) .nil) (.node (o310 P) .nil .nil)))))) (.node (o47 P) (.node (o51 P) (.node (o59 P) (.node (o79 P) (.node (o113 P) (.node (o179 P) (.node (o316 P) .nil .nil) .nil) (.node (o243 P) .nil .nil)) (.node (o145 P) (.node (o211 P) (.node (o350 P) .nil .nil) .nil) (.node (o281 P) .nil .nil))) (.node (o97 P) (.node (o129 P) (.node (o195 P) (.node (o334 P) .nil .nil) .nil) (.node (o262 P) .nil .nil)) (.node (o161 P) (.node (o227 P) (.node (o366 P) .nil .nil) .nil) (.node (o300 P) .nil .nil)))) (.node (o67 P) (.node (o87 P) (.node (o121 P) (.node (o187 P) (.node (o326 P) .nil .nil) .nil) (.node (o251 P) .nil .nil)) (.node (o153 P) (.node (o219 P) (.node (o358 P) .nil .nil) .nil) (.node (o292 P) .nil .nil))) (.node (o105 P) (.node (o137 P) (.node (o203 P) (.node (o342 P) .nil .nil) .nil) (.node (o273 P) .nil .nil)) (.node (o171 P) (.node (o235 P) (.node (o374 P) .nil .nil) .nil) (.node (o308 P) .nil .nil))))) (.node (o55 P) (.node (o63 P) (.node (o83 P) (.node (o117 P) (.node (o183 P) (.node (o320 P) .nil .nil) .nil) (.node (o247 P) .nil .nil)) (.node (o149 P) (.node (o215 P) (.node (o354 P) .nil .nil) .nil) (.node (o288 P) .nil .nil))) (.node (o101 P) (.node (o133 P) (.node (o199 P) (.node (o338 P) .nil .nil) .nil) (.node (o287 P) .nil .nil)) (.node (o165 P) (.node (o231 P) (.node (o370 P) .nil .nil) .nil) (.node (o304 P) .nil .nil)))) (.node (o71 P) (.node (o93 P) (.node (o125 P) (.node (o191 P) (.node (o330 P) .nil .nil) .nil) (.node (o258 P) .nil .nil)) (.node (o157 P) (.node (o223 P) (.node (o362 P) .nil .nil) .nil) (.node (o296 P) .nil .nil))) (.node (o109 P) (.node (o141 P) (.node (o207 P) (.node (o346 P) .nil .nil) .nil) (.node (o277 P) .nil .nil)) (.node (o175 P) (.node (o239 P) .nil .nil) (.node (o312 P) .nil .nil))))))))
noncomputable def T404 (P : Params) : BT := (.node (o41 P) (.node (o42 P) (.node (o377 P) (.node (o48 P) (.node (o56 P) (.node (o72 P) (.node (o110 P) (.node (o176 P) (.node (o313 P) .nil .nil) .nil) (.node (o240 P) (.node (o381 P) .nil .nil) .nil)) (.node (o142 P) (.node (o208 P) (.node (o347 P) .nil .nil) .nil) (.node (o278 P) .nil .nil))) (.node (o94 P) (.node (o126 P) (.node (o192 P) (.node (o331 P) .nil .nil) .nil) (.node (o259 P) (.node (o397 P) .nil .nil) .nil)) (.node (o158 P) (.node (o224 P) (.node (o363 P) .nil .nil) .nil) (.node (o297 P) .nil .nil)))) (.node (o64 P) (.node (o84 P) (.node (o118 P) (.node (o184 P) (.node (o323 P) .nil .nil) .nil) (.node (o248 P) (.node (o389 P) .nil .nil) .nil)) (.node (o150 P) (.node (o216 P) (.node (o355 P) .nil .nil) .nil) (.node (o289 P) .nil .nil))) (.node (o102 P) (.node (o134 P) (.node (o200 P) (.node (o339 P) .nil .nil) .nil) (.node (o267 P) .nil .nil)) (.node (o166 P) (.node (o232 P) (.node (o371 P) .nil .nil) .nil) (.node (o305 P) .nil .nil))))) (.node (o52 P) (.node (o60 P) (.node (o80 P) (.node (o114 P) (.node (o180 P) (.node (o317 P) .nil .nil) .nil) (.node (o244 P) (.node (o385 P) .nil .nil) .nil)) (.node (o146 P) (.node (o212 P) (.node (o351 P) .nil .nil) .nil) (.node (o282 P) .nil .nil))) (.node (o98 P) (.node (o130 P) (.node (o196 P) (.node (o335 P) .nil .nil) .nil) (.node (o263 P) (.node (o401 P) .nil .nil) .nil)) (.node (o162 P) (.node (o228 P) (.node (o367 P) .nil .nil) .nil) (.node (o301 P) .nil .nil)))) (.node (o68 P) (.node (o88 P) (.node (o122 P) (.node (o188 P) (.node (o327 P) .nil .nil) .nil) (.node (o252 P) (.node (o393 P) .nil .nil) .nil)) (.node (o154 P) (.node (o220 P) (.node (o359 P) .nil .nil) .nil) (.node (o293 P) .nil .nil))) (.node (o106 P) (.node (o138 P) (.node (o204 P) (.node (o343 P) .nil .nil) .nil) (.node (o274 P) .nil .nil)) (.node (o172 P) (.node (o236 P) (.node (o375 P) .nil .nil) .nil) (.node (o309 P) .nil .nil)))))) (.node (o46 P) (.node (o50 P) (.node (o58 P) (.node (o78 P) (.node (o112 P) (.node (o178 P) (.node (o315 P) .nil .nil) .nil) (.node (o242 P) (.node (o383 P) .nil .nil) .nil)) (.node (o144 P) (.node (o210 P) (.node (o349 P) .nil .nil) .nil) (.node (o280 P) .nil .nil))) (.node (o96 P) (.node (o128 P) (.node (o194 P) (.node (o333 P) .nil .nil) .nil) (.node (o261 P) (.node (o399 P) .nil .nil) .nil)) (.node (o160 P) (.node (o226 P) (.node (o365 P) .nil .nil) .nil) (.node (o299 P) .nil .nil)))) (.node (o66 P) (.node (o86 P) (.node (o120 P) (.node (o186 P) (.node (o325 P) .nil .nil) .nil) (.node (o250 P) (.node (o391 P) .nil .nil) .nil)) (.node (o152 P) (.node (o218 P) (.node (o357 P) .nil .nil) .nil) (.node (o291 P) .nil .nil))) (.node (o104 P) (.node (o136 P) (.node (o202 P) (.node (o341 P) .nil .nil) .nil) (.node (o269 P) .nil .nil)) (.node (o170 P) (.node (o234 P) (.node (o373 P) .nil .nil) .nil) (.node (o307 P) .nil .nil))))) (.node (o54 P) (.node (o62 P) (.node (o82 P) (.node (o116 P) (.node (o182 P) (.node (o319 P) .nil .nil) .nil) (.node (o246 P) (.node (o387 P) .nil .nil) .nil)) (.node (o148 P) (.node (o214 P) (.node (o353 P) .nil .nil) .nil) (.node (o284 P) .nil .nil))) (.node (o100 P) (.node (o132 P) (.node (o198 P) (.node (o337 P) .nil .nil) .nil) (.node (o265 P) (.node (o403 P) .nil .nil) .nil)) (.node (o164 P) (.node (o230 P) (.node (o369 P) .nil .nil) .nil) (.node (o303 P) .nil .nil)))) (.node (o378 P) (.node (o92 P) (.node (o124 P) (.node (o190 P) (.node (o329 P) .nil .nil) .nil) (.node (o257 P) (.node (o395 P) .nil .nil) .nil)) (.node (o156 P) (.node (o222 P) (.node (o361 P) .nil .nil) .nil) (.node (o295 P) .nil .nil))) (.node (o108 P) (.node (o140 P) (.node (o206 P) (.node (o345 P) .nil .nil) .nil) (.node (o276 P) .nil .nil)) (.node (o174 P) (.node (o238 P) (.node (o379 P) .nil .nil) .nil) (.node (o311 P) .nil .nil))))))) (.node (o254 P) (.node (o45 P) (.node (o49 P) (.node (o57 P) (.node (o77 P) (.node (o111 P) (.node (o177 P) (.node (o314 P) .nil .nil) .nil) (.node (o241 P) (.node (o382 P) .nil .nil) .nil)) (.node (o143 P) (.node (o209 P) (.node (o348 P) .nil .nil) .nil) (.node (o279 P) .nil .nil))) (.node (o95 P) (.node (o127 P) (.node (o193 P) (.node (o332 P) .nil .nil) .nil) (.node (o260 P) (.node (o398 P) .nil .nil) .nil)) (.node (o159 P) (.node (o225 P) (.node (o364 P) .nil .nil) .nil) (.node (o298 P) .nil .nil)))) (.node (o65 P) (.node (o85 P) (.node (o119 P) (.node (o185 P) (.node (o324 P) .nil .nil) .nil) (.node (o249 P) (.node (o390 P) .nil .nil) .nil)) (.node (o151 P) (.node (o217 P) (.node (o356 P) .nil .nil) .nil) (.node (o290 P) .nil .nil))) (.node (o103 P) (.node (o135 P) (.node (o201 P) (.node (o340 P) .nil .nil) .nil) (.node (o268 P) .nil .nil)) (.node (o167 P) (.node (o233 P) (.node (o372 P) .nil .nil) .nil) (.node (o306 P) .nil .nil))))) (.node (o53 P) (.node (o61 P) (.node (o81 P) (.node (o115 P) (.node (o181 P) (.node (o318 P) .nil .nil) .nil) (.node (o245 P) (.node (o386 P) .nil .nil) .nil)) (.node (o147 P) (.node (o213 P) (.node (o352 P) .nil .nil) .nil) (.node (o283 P) .nil .nil))) (.node (o99 P) (.node (o131 P) (.node (o197 P) (.node (o336 P) .nil .nil) .nil) (.node (o264 P) (.node (o402 P) .nil .nil) .nil)) (.node (o163 P) (.node (o229 P) (.node (o368 P) .nil .nil) .nil) (.node (o302 P) .nil .nil)))) (.node (o69 P) (.node (o91 P) (.node (o123 P) (.node (o189 P) (.node (o328 P) .nil .nil) .nil) (.node (o253 P) (.node (o394 P) .nil .nil) .nil)) (.node (o155 P) (.node (o221 P) (.node (o360 P) .nil .nil) .nil) (.node (o294 P) .nil .nil))) (.node (o107 P) (.node (o139 P) (.node (o205 P) (.node (o344 P) .nil .nil) .nil) (.node (o275 P) .nil .nil)) (.node (o173 P) (.node (o237 P) (.node (o376 P) .nil .nil) .nil) (.node (o310 P) .nil .nil)))))) (.node (o47 P) (.node (o51 P) (.node (o59 P) (.node (o79 P) (.node (o113 P) (.node (o179 P) (.node (o316 P) .nil .nil) .nil) (.node (o243 P) (.node (o384 P) .nil .nil) .nil)) (.node (o145 P) (.node (o211 P) (.node (o350 P) .nil .nil) .nil) (.node (o281 P) .nil .nil))) (.node (o97 P) (.node (o129 P) (.node (o195 P) (.node (o334 P) .nil .nil) .nil) (.node (o262 P) (.node (o400 P) .nil .nil) .nil)) (.node (o161 P) (.node (o227 P) (.node (o366 P) .nil .nil) .nil) (.node (o300 P) .nil .nil)))) (.node (o67 P) (.node (o87 P) (.node (o121 P) (.node (o187 P) (.node (o326 P) .nil .nil) .nil) (.node (o251 P) (.node (o392 P) .nil .nil) .nil)) (.node (o153 P) (.node (o219 P) (.node (o358 P) .nil .nil) .nil) (.node (o292 P) .nil .nil))) (.node (o105 P) (.node (o137 P) (.node (o203 P) (.node (o342 P) .nil .nil) .nil) (.node (o273 P) .nil .nil)) (.node (o171 P) (.node (o235 P) (.node (o374 P) .nil .nil) .nil) (.node (o308 P) .nil .nil))))) (.node (o55 P) (.node (o63 P) (.node (o83 P) (.node (o117 P) (.node (o183 P) (.node (o320 P) .nil .nil) .nil) (.node (o247 P) (.node (o388 P) .nil .nil) .nil)) (.node (o149 P) (.node (o215 P) (.node (o354 P) .nil .nil) .nil) (.node (o288 P) .nil .nil))) (.node (o101 P) (.node (o133 P) (.node (o199 P) (.node (o338 P) .nil .nil) .nil) (.node (o287 P) (.node (o404 P) .nil .nil) .nil)) (.node (o165 P) (.node (o231 P) (.node (o370 P) .nil .nil) .nil) (.node (o304 P) .nil .nil)))) (.node (o71 P) (.node (o93 P) (.node (o125 P) (.node (o191 P) (.node (o330 P) .nil .nil) .nil) (.node (o258 P) (.node (o396 P) .nil .nil) .nil)) (.node (o157 P) (.node (o223 P) (.node (o362 P) .nil .nil) .nil) (.node (o296 P) .nil .nil))) (.node (o109 P) (.node (o141 P) (.node (o207 P) (.node (o346 P) .nil .nil) .nil) (.node (o277 P) .nil .nil)) (.node (o175 P) (.node (o239 P) (.node (o380 P) .nil .nil) .nil) (.node (o312 P) .nil .nil))))))))
noncomputable def H68 (P : Params) : Heap := ⟨⟨o41 P :: o42 P :: o43 P :: o44 P :: o45 P :: o46 P :: o47 P :: o48 P :: o49 P :: o50 P :: o51 P :: o52 P :: o53 P :: o54 P :: o55 P :: o56 P :: o57 P :: o58 P :: o59 P :: o60 P :: o61 P :: o62 P :: o63 P :: o64 P :: o65 P :: o66 P :: o67 P :: o68 P :: []⟩, {}⟩
noncomputable def H72 (P : Params) : Heap := ⟨⟨o41 P :: o42 P :: o43 P :: o44 P :: o45 P :: o46 P :: o47 P :: o48 P :: o49 P :: o50 P :: o51 P :: o52 P :: o53 P :: o54 P :: o55 P :: o56 P :: o57 P :: o58 P :: o59 P :: o60 P :: o61 P :: o62 P :: o63 P :: o64 P :: o65 P :: o66 P :: o67 P :: o68 P :: o69 P :: o70 P :: o71 P :: o72 P :: []⟩, {}⟩
noncomputable def H405 (P : Params) : Heap := ⟨⟨o41 P :: o42 P :: o254 P :: o377 P :: o45 P :: o46 P :: o47 P :: o48 P :: o49 P :: o50 P :: o51 P :: o52 P :: o53 P :: o54 P :: o55 P :: o56 P :: o57 P :: o58 P :: o59 P :: o60 P :: o61 P :: o62 P :: o63 P :: o64 P :: o65 P :: o66 P :: o67 P :: o68 P :: o69 P :: o378 P :: o71 P :: o72 P :: o77 P :: o78 P :: o79 P :: o80 P :: o81 P :: o82 P :: o83 P :: o84 P :: o85 P :: o86 P :: o87 P :: o88 P :: o91 P :: o92 P :: o93 P :: o94 P :: o95 P :: o96 P :: o97 P :: o98 P :: o99 P :: o100 P :: o101 P :: o102 P :: o103 P :: o104 P :: o105 P :: o106 P :: o107 P :: o108 P :: o109 P :: o110 P :: o111 P :: o112 P :: o113 P :: o114 P :: o115 P :: o116 P :: o117 P :: o118 P :: o119 P :: o120 P :: o121 P :: o122 P :: o123 P :: o124 P :: o125 P :: o126 P :: o127 P :: o128 P :: o129 P :: o130 P :: o131 P :: o132 P :: o133 P :: o134 P :: o135 P :: o136 P :: o137 P :: o138 P :: o139 P :: o140 P :: o141 P :: o142 P :: o143 P :: o144 P :: o145 P :: o146 P :: o147 P :: o148 P :: o149 P :: o150 P :: o151 P :: o152 P :: o153 P :: o154 P :: o155 P :: o156 P :: o157 P :: o158 P :: o159 P :: o160 P :: o161 P :: o162 P :: o163 P :: o164 P :: o165 P :: o166 P :: o167 P :: o170 P :: o171 P :: o172 P :: o173 P :: o174 P :: o175 P :: o176 P :: o177 P :: o178 P :: o179 P :: o180 P :: o181 P :: o182 P :: o183 P :: o184 P :: o185 P :: o186 P :: o187 P :: o188 P :: o189 P :: o190 P :: o191 P :: o192 P :: o193 P :: o194 P :: o195 P :: o196 P :: o197 P :: o198 P :: o199 P :: o200 P :: o201 P :: o202 P :: o203 P :: o204 P :: o205 P :: o206 P :: o207 P :: o208 P :: o209 P :: o210 P :: o211 P :: o212 P :: o213 P :: o214 P :: o215 P :: o216 P :: o217 P :: o218 P :: o219 P :: o220 P :: o221 P :: o222 P :: o223 P :: o224 P :: o225 P :: o226 P :: o227 P :: o228 P :: o229 P :: o230 P :: o231 P :: o232 P :: o233 P :: o234 P :: o235 P :: o236 P :: o237 P :: o238 P :: o239 P :: o240 P :: o241 P :: o242 P :: o243 P :: o244 P :: o245 P :: o246 P :: o247 P :: o248 P :: o249 P :: o250 P :: o251 P :: o252 P :: o253 P :: o257 P :: o258 P :: o259 P :: o260 P :: o261 P :: o262 P :: o263 P :: o264 P :: o265 P :: o287 P :: o267 P :: o268 P :: o269 P :: o273 P :: o274 P :: o275 P :: o276 P :: o277 P :: o278 P :: o279 P :: o280 P :: o281 P :: o282 P :: o283 P :: o284 P :: o288 P :: o289 P :: o290 P :: o291 P :: o292 P :: o293 P :: o294 P :: o295 P :: o296 P :: o297 P :: o298 P :: o299 P :: o300 P :: o301 P :: o302 P :: o303 P :: o304 P :: o305 P :: o306 P :: o307 P :: o308 P :: o309 P :: o310 P :: o311 P :: o312 P :: o313 P :: o314 P :: o315 P :: o316 P :: o317 P :: o318 P :: o319 P :: o320 P :: o323 P :: o324 P :: o325 P :: o326 P :: o327 P :: o328 P :: o329 P :: o330 P :: o331 P :: o332 P :: o333 P :: o334 P :: o335 P :: o336 P :: o337 P :: o338 P :: o339 P :: o340 P :: o341 P :: o342 P :: o343 P :: o344 P :: o345 P :: o346 P :: o347 P :: o348 P :: o349 P :: o350 P :: o351 P :: o352 P :: o353 P :: o354 P :: o355 P :: o356 P :: o357 P :: o358 P :: o359 P :: o360 P :: o361 P :: o362 P :: o363 P :: o364 P :: o365 P :: o366 P :: o367 P :: o368 P :: o369 P :: o370 P :: o371 P :: o372 P :: o373 P :: o374 P :: o375 P :: o376 P :: o379 P :: o380 P :: o381 P :: o382 P :: o383 P :: o384 P :: o385 P :: o386 P :: o387 P :: o388 P :: o389 P :: o390 P :: o391 P :: o392 P :: o393 P :: o394 P :: o395 P :: o396 P :: o397 P :: o398 P :: o399 P :: o400 P :: o401 P :: o402 P :: o403 P :: o404 P :: []⟩, {}⟩
noncomputable def view : Program := { pgm with main := { pgm.main with body := [0, 1, 3, 4, 5, 6, 7, 9, 10, 11, 12, 13, 15, 17, 19, 20, 21, 22, 23, 24].map cell } }
noncomputable abbrev bE : List Stmt := behindTheImports pgm
noncomputable def envE : Env := { scope := pgm.main.scope, locals := mainNs, globals := mainNs, cells := [], code := .ref 30, frame := some 31 }
noncomputable abbrev cE : Code := .body bE envE
noncomputable def part (a b : Nat) : List Stmt := (bE.drop a).take b
noncomputable abbrev p0 : Pos := ⟨0, 0, 0, 0⟩
noncomputable abbrev aE : Option Value := some (.ref 6)
noncomputable abbrev SH (h : Heap) (k : Nat) (os : OsState) : Shared := ⟨h, #[], {}, k, os⟩
noncomputable abbrev ST (t : BT) (n k : Nat) (os : OsState) : SharedT := ⟨t, n, {}, #[], {}, k, os⟩
theorem opens : ∀ w : World, (fencedOpening treeTable pgm w 4920).map (fun s => (s.heap, s.gens, s.drawn, s.toks)) = some (H68 w.params, #[], {}, 276) := fun w => by kernel_rfl
theorem sizeOk : ∀ w : World, ((H68 w.params).isNs mainGlobals && (#[] : Array GenState).size == 0, (H68 w.params).objs.size, (H68 w.params).nsMap mainGlobals "__annotations__") = (true, 28, aE) := fun w => by kernel_rfl
theorem pre : ∀ w : World, (fun os => topGo treeTable pgm w 28 aE 12 (SH (H68 w.params) 276 os) (topStub pgm)) = fun os => some (SH (H72 w.params) 282 os, (⟨denote treeTable cE, cE, p0, [topFrame p0]⟩ : Thread)) := fun w => by kernel_rfl
theorem block : ∀ w : World, (fun os => segRun treeTable pgm w 28 aE 1 1 (SH (H72 w.params) 282 os) (blockOf bE envE cE p0 [topFrame p0])) = fun os => some (Flow.next, (ST (T73 w.params) 32 282 os).abs, cE, p0) := fun w => by kernel_rfl
theorem piece0 : ∀ w : World, (fun os => segRunT treeTable pgm w 28 aE 1 128 (ST (T73 w.params) 32 282 os) (piecesOf (part 0 5) envE cE ⟨0, 0, 0, 0⟩ [topFrame p0])) = fun os => some (Flow.next, ST (T88 w.params) 44 323 os, cE, ⟨8, 0, 8, 11⟩) := fun w => by kernel_rfl
theorem piece1 : ∀ w : World, (fun os => segRunT treeTable pgm w 28 aE 1 500 (ST (T88 w.params) 44 323 os) (piecesOf (part 5 1) envE cE ⟨8, 0, 8, 11⟩ [topFrame p0])) = fun os => some (Flow.next, ST (T167 w.params) 121 437 os, cE, ⟨9, 0, 99, 47⟩) := fun w => by kernel_rfl
theorem piece2 : ∀ w : World, (fun os => segRunT treeTable pgm w 28 aE 1 505 (ST (T167 w.params) 121 437 os) (piecesOf (part 6 1) envE cE ⟨9, 0, 99, 47⟩ [topFrame p0])) = fun os => some (Flow.next, ST (T253 w.params) 205 533 os, cE, ⟨100, 0, 135, 32⟩) := fun w => by kernel_rfl
theorem piece3 : ∀ w : World, (fun os => segRunT treeTable pgm w 28 aE 1 206 (ST (T253 w.params) 205 533 os) (piecesOf (part 7 2) envE cE ⟨100, 0, 135, 32⟩ [topFrame p0])) = fun os => some (Flow.next, ST (T269 w.params) 218 555 os, cE, ⟨137, 0, 138, 8⟩) := fun w => by kernel_rfl
theorem piece4 : ∀ w : World, (fun os => segRunT treeTable pgm w 28 aE 1 214 (ST (T269 w.params) 218 555 os) (piecesOf (part 9 1) envE cE ⟨137, 0, 138, 8⟩ [topFrame p0])) = fun os => some (Flow.next, ST (T284 w.params) 230 571 os, cE, ⟨139, 0, 140, 8⟩) := fun w => by kernel_rfl
theorem piece5 : ∀ w : World, (fun os => segRunT treeTable pgm w 28 aE 1 330 (ST (T284 w.params) 230 571 os) (piecesOf (part 10 6) envE cE ⟨139, 0, 140, 8⟩ [topFrame p0])) = fun os => some (Flow.next, ST (T320 w.params) 263 623 os, cE, ⟨180, 0, 180, 8⟩) := fun w => by kernel_rfl
theorem piece6 : ∀ w : World, (fun os => segRunT treeTable pgm w 28 aE 1 390 (ST (T320 w.params) 263 623 os) (piecesOf (part 16 4) envE cE ⟨180, 0, 180, 8⟩ [topFrame p0])) = fun os => some (Flow.next, ST (T376 w.params) 317 698 os, cE, ⟨230, 0, 242, 46⟩) := fun w => by kernel_rfl
theorem piece7 : ∀ w : World, (fun os => segRunT treeTable pgm w 28 aE 1 132 (ST (T376 w.params) 317 698 os) (piecesOf (part 20 4) envE cE ⟨230, 0, 242, 46⟩ [topFrame p0])) = fun os => some (Flow.next, ST (T404 w.params) 343 743 os, cE, ⟨295, 0, 311, 96⟩) := fun w => by kernel_rfl
theorem fin : ∀ w : World, (fun os => topRun treeTable pgm w 28 aE 2 (ST (T404 w.params) 343 743 os).abs (⟨doneF .next, cE, ⟨295, 0, 311, 96⟩, [topFrame p0]⟩ : Thread)) = fun os => some (SH (H405 w.params) 743 os) := fun w => by kernel_rfl
theorem parts : part 0 5 ++ (part 5 1 ++ (part 6 1 ++ (part 7 2 ++ (part 9 1 ++ (part 10 6 ++ (part 16 4 ++ (part 20 4 ++ []))))))) = bE := by kernel_rfl
theorem runs : ∀ (w : World) (os : OsState), topRun treeTable pgm w 28 aE (Nat.add 12 (Nat.add 1 (Nat.add 128 (Nat.add 500 (Nat.add 505 (Nat.add 206 (Nat.add 214 (Nat.add 330 (Nat.add 390 (Nat.add 132 2)))))))))) (SH (H68 w.params) 276 os) (topStub pgm) = some (SH (H405 w.params) 743 os) := fun w os =>
 go_top (congrFun (pre w) os) (piece_block (congrFun (block w) os) (parts ▸ (piece_app (segRun_of (congrFun (piece0 w) os))
 (piece_app (segRun_of (congrFun (piece1 w) os))
 (piece_app (segRun_of (congrFun (piece2 w) os))
 (piece_app (segRun_of (congrFun (piece3 w) os))
 (piece_app (segRun_of (congrFun (piece4 w) os))
 (piece_app (segRun_of (congrFun (piece5 w) os))
 (piece_app (segRun_of (congrFun (piece6 w) os))
 (piece_app (segRun_of (congrFun (piece7 w) os))
 (congrFun (fin w) os)))))))))))
noncomputable abbrev hook : Hook := kmHook hd.heap_39 [2, 3, 32, 34, 35, 37, 38, 42, 43, 51, 53, 54, 56, 57, 58, 60, 61, 63, 64, 65, 67, 68, 70, 71, 72, 74, 75, 77, 78, 79, 81, 82, 84, 85, 86, 88, 89, 91, 92, 93, 95, 96, 98, 99, 100, 102, 103, 105, 106, 107, 109, 110, 112, 113, 114, 115, 116, 117, 118, 121, 124, 129, 130, 131, 133, 134, 136, 137, 138, 140, 141, 143, 144, 145, 146, 148, 149, 151, 152, 153, 154, 156, 157, 159, 160, 161, 163, 164, 166, 167, 168, 170, 171, 173, 174, 175, 176, 178, 179, 181, 182, 183, 185, 186, 188, 189, 190, 191, 193, 194, 196, 197, 198, 199, 200, 201, 202, 205, 212, 213, 214, 215, 218, 225, 226, 227, 230, 237, 238, 239, 242, 244, 245, 247, 248, 249, 251, 252, 254, 255, 256, 258, 259, 261, 262, 270, 272, 273, 275, 276, 277, 279, 280, 282, 283, 284, 286, 287, 289, 290, 291, 293, 294, 296, 297, 298, 299, 300, 301, 302, 305, 307, 308, 310, 311, 312, 315, 316, 317, 319, 320, 322, 323, 324, 326, 327, 329, 330, 331, 333, 334, 336, 337, 338, 341, 342] (fun _ => by kernel_rfl) [162, 169, 306]
noncomputable abbrev loose : List Str := ["_twin_re_1", "_Accumulator"]
theorem looks : ∀ w : World, (fun os => ((staticsOk (importedModules pgm.main.body) (H68 w.params) (H405 w.params) && namesBound pgm (H405 w.params) && gensDone (SH (H405 w.params) 743 os) && laidKept (H68 w.params) (H405 w.params)),
        openSeen view loose (importedModules pgm.main.body) (fun s => xlAt view [] s && recOk PySem.Challenge.rw_wu0089_01.row.records s) true (SH (H405 w.params) 743 os), Hook.obs hook (SH (H405 w.params) 743 os))) = fun _ => (true, openGood view loose, Hook.val hook w) := fun w => by kernel_rfl
theorem left : LeftO pgm view loose (fun s => xlAt view [] s && recOk PySem.Challenge.rw_wu0089_01.row.records s) (Hook.obs hook) (Hook.val hook) 4920 true :=
  LeftO.of_pieces (H₀ := H68) (H₁ := H405) opens sizeOk runs (by decide) looks
end
section
/-- what a statement's own end owes -/
structure SeqP (M : Model) (A : Around) (rest : List Stmt) (env : Env) (Q : Flow → Shared → Prop) (E : Value → Shared → Prop) (Q1 : Flow → Shared → Prop) : Prop where
  a : ∀ {s : Shared}, wpAny M A (execs rest env) Q E s → Q1 .next s
  b : ∀ {f : Flow} {s : Shared}, f ≠ .next → Q f s → Q1 f s
theorem seq_cons {M : Model} {A : Around} {st : Stmt} {rest : List Stmt} {env : Env} {Q : Flow → Shared → Prop} {E : Value → Shared → Prop} {h : Heap} {g : Array GenState} {d : Drawn} {t : Nat} {o : OsState} (H : ∀ Q1 t, SeqP M A rest env Q E Q1 → wpAny M A (exec st env) Q1 E ⟨h, g, d, t, o⟩) : wpAny M A (execs (st :: rest) env) Q E ⟨h, g, d, t, o⟩ :=
  wpAny_execs_cons (H _ _ ⟨fun h => h, fun {f s} n h => by cases f <;> first | exact absurd rfl n | exact h⟩)
theorem seq_a {M : Model} {A : Around} {rest : List Stmt} {env : Env} {Q Q1 : Flow → Shared → Prop} {E : Value → Shared → Prop} {s : Shared} (H : SeqP M A rest env Q E Q1) (h : wpAny M A (execs rest env) Q E s) : Q1 .next s := H.a h
theorem seq_r {M : Model} {A : Around} {rest : List Stmt} {env : Env} {Q Q1 : Flow → Shared → Prop} {E : Value → Shared → Prop} {s : Shared} {v : Value} (H : SeqP M A rest env Q E Q1) (h : Q (.ret v) s) : Q1 (.ret v) s := H.b (by simp) h
theorem seq_k {M : Model} {A : Around} {rest : List Stmt} {env : Env} {Q Q1 : Flow → Shared → Prop} {E : Value → Shared → Prop} {s : Shared} (H : SeqP M A rest env Q E Q1) (h : Q .brk s) : Q1 .brk s := H.b (by simp) h
theorem seq_n {M : Model} {A : Around} {rest : List Stmt} {env : Env} {Q Q1 : Flow → Shared → Prop} {E : Value → Shared → Prop} {s : Shared} (H : SeqP M A rest env Q E Q1) (h : Q .cont s) : Q1 .cont s := H.b (by simp) h
theorem lt_mem {l : List (Addr × Obj)} {a b : Addr} {o : Obj} (h : ∀ p ∈ l, @LT.lt Nat _ p.1 b) (m : (a, o) ∈ l) : @LT.lt Nat _ a b := h _ m
theorem ne_mem {l : List (Addr × Obj)} {a b : Addr} {o : Obj} (h : ∀ p ∈ l, p.1 ≠ b) (m : (a, o) ∈ l) : @Ne Nat a b := h _ m
theorem mem_all1 {α : Type} {P : α → Prop} {a : α} (h : P a) : ∀ q ∈ [a], P q := List.forall_mem_singleton.mpr h
theorem mem_all2 {α : Type} {P : α → Prop} {a1 a2 : α} (h1 : P a1) (h2 : P a2) : ∀ q ∈ [a1, a2], P q := List.forall_mem_cons.mpr ⟨h1, mem_all1 h2⟩
theorem mem_all3 {α : Type} {P : α → Prop} {a1 a2 a3 : α} (h1 : P a1) (h2 : P a2) (h3 : P a3) : ∀ q ∈ [a1, a2, a3], P q := List.forall_mem_cons.mpr ⟨h1, mem_all2 h2 h3⟩
theorem mem_all4 {α : Type} {P : α → Prop} {a1 a2 a3 a4 : α} (h1 : P a1) (h2 : P a2) (h3 : P a3) (h4 : P a4) : ∀ q ∈ [a1, a2, a3, a4], P q := List.forall_mem_cons.mpr ⟨h1, mem_all3 h2 h3 h4⟩
theorem mem_all5 {α : Type} {P : α → Prop} {a1 a2 a3 a4 a5 : α} (h1 : P a1) (h2 : P a2) (h3 : P a3) (h4 : P a4) (h5 : P a5) : ∀ q ∈ [a1, a2, a3, a4, a5], P q := List.forall_mem_cons.mpr ⟨h1, mem_all4 h2 h3 h4 h5⟩
theorem mem_all6 {α : Type} {P : α → Prop} {a1 a2 a3 a4 a5 a6 : α} (h1 : P a1) (h2 : P a2) (h3 : P a3) (h4 : P a4) (h5 : P a5) (h6 : P a6) : ∀ q ∈ [a1, a2, a3, a4, a5, a6], P q := List.forall_mem_cons.mpr ⟨h1, mem_all5 h2 h3 h4 h5 h6⟩
theorem mem_all7 {α : Type} {P : α → Prop} {a1 a2 a3 a4 a5 a6 a7 : α} (h1 : P a1) (h2 : P a2) (h3 : P a3) (h4 : P a4) (h5 : P a5) (h6 : P a6) (h7 : P a7) : ∀ q ∈ [a1, a2, a3, a4, a5, a6, a7], P q := List.forall_mem_cons.mpr ⟨h1, mem_all6 h2 h3 h4 h5 h6 h7⟩
theorem mem_all8 {α : Type} {P : α → Prop} {a1 a2 a3 a4 a5 a6 a7 a8 : α} (h1 : P a1) (h2 : P a2) (h3 : P a3) (h4 : P a4) (h5 : P a5) (h6 : P a6) (h7 : P a7) (h8 : P a8) : ∀ q ∈ [a1, a2, a3, a4, a5, a6, a7, a8], P q := List.forall_mem_cons.mpr ⟨h1, mem_all7 h2 h3 h4 h5 h6 h7 h8⟩
theorem mem_all9 {α : Type} {P : α → Prop} {a1 a2 a3 a4 a5 a6 a7 a8 a9 : α} (h1 : P a1) (h2 : P a2) (h3 : P a3) (h4 : P a4) (h5 : P a5) (h6 : P a6) (h7 : P a7) (h8 : P a8) (h9 : P a9) : ∀ q ∈ [a1, a2, a3, a4, a5, a6, a7, a8, a9], P q := List.forall_mem_cons.mpr ⟨h1, mem_all8 h2 h3 h4 h5 h6 h7 h8 h9⟩
theorem mem_all10 {α : Type} {P : α → Prop} {a1 a2 a3 a4 a5 a6 a7 a8 a9 a10 : α} (h1 : P a1) (h2 : P a2) (h3 : P a3) (h4 : P a4) (h5 : P a5) (h6 : P a6) (h7 : P a7) (h8 : P a8) (h9 : P a9) (h10 : P a10) : ∀ q ∈ [a1, a2, a3, a4, a5, a6, a7, a8, a9, a10], P q := List.forall_mem_cons.mpr ⟨h1, mem_all9 h2 h3 h4 h5 h6 h7 h8 h9 h10⟩
theorem not_in7 {t a1 a2 a3 a4 a5 a6 a7 : Addr} (h1 : @Ne Nat t a1) (h2 : @Ne Nat t a2) (h3 : @Ne Nat t a3) (h4 : @Ne Nat t a4) (h5 : @Ne Nat t a5) (h6 : @Ne Nat t a6) (h7 : @Ne Nat t a7) : t ∉ [a1, a2, a3, a4, a5, a6, a7] := fun h => absurd rfl (mem_all7 (P := fun q => @Ne Nat t q) h1 h2 h3 h4 h5 h6 h7 t h)
theorem anE {p q b : Prop} (h : p ∧ q) (k : p → q → b) : b := k h.1 h.2
theorem gen_eq {α : Type} {b : Prop} (v : α) (k : ∀ x, x = v → b) : b := k v rfl
theorem ni7 {t a1 a2 a3 a4 a5 a6 a7 : Addr} (h : t ∉ [a1, a2, a3, a4, a5, a6, a7]) : @Ne Nat t a1 ∧ @Ne Nat t a2 ∧ @Ne Nat t a3 ∧ @Ne Nat t a4 ∧ @Ne Nat t a5 ∧ @Ne Nat t a6 ∧ @Ne Nat t a7 := by
  simp only [List.mem_cons, List.not_mem_nil, or_false, not_or] at h
  exact h
noncomputable def sel {α : Type} (l : List α) (ns : List Nat) (k : Nat) : List α := ns.filterMap (fun i => l[i]?) ++ l.drop k
theorem sel_mem {α : Type} {l : List α} (ns : List Nat) (k : Nat) {q : α} (h : q ∈ sel l ns k) : q ∈ l := by
  rcases List.mem_append.mp h with h | h
  · obtain ⟨i, _, e⟩ := List.mem_filterMap.mp h
    exact List.mem_of_getElem? e
  · exact List.mem_of_mem_drop h
end
local macro_rules | `(tactic| k_lt $h:ident) => if h.getId.hasMacroScopes then `(tactic| skip) else `(tactic| (replace $h := allLt_of $h; simp only [AllLt, and_true] at $h:ident))
local macro_rules | `(tactic| k_ne) => `(tactic| (refine neN ?_; (try dsimp only); first | with_reducible assumption | exact Ne.symm (by with_reducible assumption) | exact Nat.ne_of_lt (by with_reducible assumption) | exact Nat.ne_of_gt (by with_reducible assumption) | exact Nat.ne_of_lt (lt_mem (by with_reducible assumption) (by k_mem)) | exact Nat.ne_of_gt (lt_mem (by with_reducible assumption) (by k_mem)) | exact ne_mem (by with_reducible assumption) (by k_mem) | exact Ne.symm (ne_mem (by with_reducible assumption) (by k_mem)) | exact And.left (by with_reducible assumption) | exact And.left (And.right (by with_reducible assumption)) | exact And.right (And.right (by with_reducible assumption)) | exact Ne.symm (And.left (by with_reducible assumption)) | exact Ne.symm (And.left (And.right (by with_reducible assumption))) | exact Ne.symm (And.right (And.right (by with_reducible assumption))) | ((repeat ((rename ∀ p : Addr × Obj, p ∈ _ → @LT.lt Nat _ p.1 _ => ky); have kz := allLt_of ky; clear ky; simp only [AllLt, and_true] at kz)); omega)))
local macro_rules | `(tactic| walk_at $s:str) => `(tactic| k_extra $s)
local macro_rules | `(tactic| k_inst) => `(tactic| k_extra "k_inst")
local macro_rules | `(tactic| ktr_enter) => `(tactic| k_extra "ktr_enter")
local macro_rules | `(tactic| ks_enter) => `(tactic| k_extra "ks_enter")
local macro_rules | `(tactic| k_steps) => `(tactic| repeat' (first | (k_unfold; (try dsimp only)) | (k_end; kc_close) | walk1 | with_reducible refine seq_a (by with_reducible assumption) ?_ | (dsimp only; walk1) | with_reducible refine seq_r (by with_reducible assumption) ?_ | with_reducible refine seq_k (by with_reducible assumption) ?_ | with_reducible refine seq_n (by with_reducible assumption) ?_ | (leave1; (try dsimp only)) | fail "no step"))
section
noncomputable abbrev P0 := PySem.Challenge.rw_wu0089_01.prog
/-- the code tables that the run fills -/
noncomputable abbrev tabs : List Addr := [162, 169, 306]
noncomputable def KX (P : Params) : Frag := (Mine.hd.heap_39 P).filter fun p => !tabs.contains p.1

noncomputable def Keeps (h h' : Heap) : Prop := ∀ b o, h.get? b = some o → h'.get? b = some o
noncomputable def KeepsBut (S : List Addr) (h h' : Heap) : Prop := ∀ b o, b ∉ S → h.get? b = some o → h'.get? b = some o
theorem Keeps.refl (h : Heap) : Keeps h h := fun _ _ e => e
theorem Keeps.trans {a b c : Heap} (x : Keeps a b) (y : Keeps b c) : Keeps a c := fun _ _ e => y _ _ (x _ _ e)
theorem KeepsBut.trans {S : List Addr} {a b c : Heap} (x : KeepsBut S a b) (y : KeepsBut S b c) : KeepsBut S a c := fun _ _ n e => y _ _ n (x _ _ n e)
theorem KeepsBut.mono {S S' : List Addr} {a b : Heap} (x : KeepsBut S a b) (h : ∀ a ∈ S, a ∈ S') : KeepsBut S' a b := fun _ _ n e => x _ _ (fun q => n (h _ q)) e
theorem Keeps.but {S : List Addr} {a b : Heap} (x : Keeps a b) : KeepsBut S a b := fun _ _ _ e => x _ _ e

/-- the text's own objects, as they stand -/
structure Bs (w : World) (g : Heap) : Prop where
  X : (Mine.hd.heap_39 w.params).In g
  XX : (KX w.params).In g
  T : ∃ p loose mean mg mb, Top p loose mean mg mb g
theorem Bs.keeps {w : World} {g g' : Heap} (B : Bs w g) (k : Keeps g g') : Bs w g' :=
  ⟨B.X.keeps k, B.XX.keeps k, let ⟨p, l, m, a, b, T⟩ := B.T; ⟨p, l, m, a, b, T.keeps k⟩⟩
/-- they stand, and none of S is one of them -/
noncomputable def Gd (w : World) (h : Heap) (S : List Addr) : Prop := Bs w (hideAll h S)
theorem Gd.of {w : World} {g h : Heap} {S : List Addr} (B : Bs w g) (k : Keeps g h) (n : ∀ a ∈ S, g.get? a = none) : Gd w h S :=
  B.keeps fun b o e => hideAll_get _ (k _ _ e) fun q => by rw [n _ q] at e; cases e
theorem hide_keeps {h : Heap} {S : List Addr} : Keeps (hideAll h S) h := fun _ _ e => of_hideAll _ e
theorem Gd.here {w : World} {h : Heap} {S : List Addr} (G : Gd w h S) : Bs w h := G.keeps hide_keeps
theorem hide_but {h h' : Heap} {S : List Addr} (k : Keeps (hideAll h S) h') : KeepsBut S h h' := fun b o n e => k b o (hideAll_get _ e n)
theorem but_hide {h h' : Heap} {S : List Addr} (k : KeepsBut S h h') : Keeps (hideAll h S) h' := fun b o e => k b o (fun q => by rw [hideAll_none _ q] at e; cases e) (of_hideAll _ e)
theorem Gd.step {w : World} {h h' : Heap} {S : List Addr} (G : Gd w h S) (k : KeepsBut S h h') : Gd w h' S :=
  Gd.of G (but_hide k) fun a ha => hideAll_none _ ha
theorem Gd.less {w : World} {h : Heap} {S S' : List Addr} (G : Gd w h S) (m : ∀ a ∈ S', a ∈ S) : Gd w h S' := Gd.of G hide_keeps fun a ha => hideAll_none _ (m a ha)
/-- new objects may be added to S -/
theorem Gd.more {w : World} {h h' : Heap} {S : List Addr} {S' : List Addr} (G : Gd w h S) (k : KeepsBut S h h') (n : ∀ a ∈ S', a ∈ S ∨ h.get? a = none) : Gd w h' S' :=
  Gd.of G (but_hide k) fun a ha => by
    rcases n a ha with q | q
    · exact hideAll_none _ q
    · cases z : (hideAll h S).get? a with
      | none => rfl
      | some o => have := of_hideAll _ z; rw [q] at this; cases this

/-- a place on the stack that is no deeper -/
structure Le (A B : Around) : Prop where
  h : A.handled = none
  d : A.depth ≤ B.depth
  u : A.units ≤ B.units
noncomputable abbrev At (d u : Nat) : Around := { handled := none, depth := d, frames := none, guards := none, units := u }
theorem le_at {A : Around} {d u : Nat} (h : A.handled = none) (h1 : Nat.ble A.depth d = true) (h2 : Nat.ble A.units u = true) : Le A (At d u) := ⟨h, Nat.le_of_ble_eq_true h1, Nat.le_of_ble_eq_true h2⟩
theorem Le.in {A : Around} {d u : Nat} (l : Le A (At d u)) {Γ : PySem.Ctx} (h : Γ.In A) : Γ.In (At d u) :=
  ⟨h.1.trans l.h, Nat.le_trans h.2.1 l.d, fun _ e => (nomatch e), fun _ e => (nomatch e), Nat.le_trans h.2.2.2.2 l.u⟩
theorem Le.below {A : Around} {d u : Nat} (l : Le A (At d u)) {Γ : PySem.Ctx} (h : Γ.Below A) : Γ.Below (At d u) :=
  ⟨h.1.trans l.h, Nat.le_trans h.2.1 l.d, fun _ e => (nomatch e), fun _ e => (nomatch e), Nat.le_trans h.2.2.2.2 l.u⟩
theorem at_le {α : Type} {M : Model} {A : Around} {d u : Nat} {t : Sem α} {Q : α → Shared → Prop} {E : Value → Shared → Prop} {s : Shared} (l : Le A (At d u)) (h : wpAny M (At d u) t Q E s) : wpAny M A t Q E s :=
  fun Γ p hΓ => h Γ p (l.in hΓ)
theorem at_le_code {M : Model} {A : Around} {d u : Nat} {c : Code} {R : Result → Shared → Prop} {s : Shared} (l : Le A (At d u)) (h : codeAny M (At d u) c R s) : codeAny M A c R s :=
  fun Γ p hc hΓ => h Γ p hc (l.below hΓ)

/-- the heap without what a call may turn -/
structure Gnd (w : World) (h : Heap) (news : List (Addr × Obj)) (g : Heap) : Prop where
  bs : Bs w g
  kb : ∀ h', Keeps g h' → KeepsBut (news.map Prod.fst) h h'
  fresh : ∀ b, g.get? b = none → b ∉ news.map Prod.fst → h.get? b = none
  kp : Keeps g h
theorem gnd_hide {w : World} {h : Heap} {news : List (Addr × Obj)} (G : Gd w h (news.map Prod.fst)) : Gnd w h news (hideAll h (news.map Prod.fst)) :=
  ⟨G, fun h' k => hide_but k, fun b e n => by
    cases q : h.get? b with
    | none => rfl
    | some o => (rw [hideAll_get _ q n] at e; cases e), hide_keeps⟩
theorem fr_keeps {h₀ h h' : Heap} {L : Addr} {m : Str → Option Value} (F : Fr h₀ L h m) (k : Keeps h h') : Fr h₀ L h' m := ⟨F.ns.keeps k, fun b o e => k _ _ (F.keep b o e), F.above⟩
theorem news_keeps {h₀ h h' : Heap} {L : Addr} {news : List (Addr × Obj)} (N : News h₀ L h news) (k : Keeps h h') : News h₀ L h' news := fun p hp => ⟨k _ _ (N p hp).1, (N p hp).2⟩
theorem upd_mem {d : Addr} {o o' : Obj} {l l' : List (Addr × Obj)} (U : Upd d o o' l l') : (d, o) ∈ l := by
  obtain ⟨pre, post, rfl, _, _⟩ := U.split
  exact List.mem_append.mpr (.inr (.head _))
theorem fr_but {h₀ h h' : Heap} {L x : Addr} {o : Obj} {m : Str → Option Value} {news : List (Addr × Obj)} (F : Fr h₀ L h m) (N : News h₀ L h news) (hx : (x, o) ∈ news) (k : KeepsBut [x] h h') : Fr h₀ L h' m := by
  have z := N _ hx
  refine ⟨?_, fun b o' e => k _ _ (fun q => ?_) (F.keep b o' e), F.above⟩
  · obtain ⟨oL, es, ep, hL, r⟩ := F.ns
    exact ⟨oL, es, ep, k _ _ (fun q => z.2.1 (List.mem_singleton.mp q).symm) hL, r⟩
  · have := List.mem_singleton.mp q
    subst this
    rw [z.2.2] at e; cases e
theorem news_but {h₀ h h' : Heap} {L x : Addr} {o o' : Obj} {news news' : List (Addr × Obj)} (N : News h₀ L h news) (U : Upd x o o' news news') (k : KeepsBut [x] h h') (ho : h'.get? x = some o') : News h₀ L h' news' := by
  obtain ⟨pre, post, rfl, rfl, a, b⟩ := U.split
  have one : ∀ p ∈ pre ++ (x, o) :: post, p.1 ≠ x → h'.get? p.1 = some p.2 ∧ p.1 ≠ L ∧ h₀.get? p.1 = none := fun p hp n => ⟨k _ _ (fun q => n (List.mem_singleton.mp q)) (N p hp).1, (N p hp).2⟩
  intro p hp
  rcases List.mem_append.mp hp with hp | hp
  · exact one p (List.mem_append.mpr (.inl hp)) (a p hp)
  · rcases List.mem_cons.mp hp with rfl | hp
    · exact ⟨ho, (N (x, o) (List.mem_append.mpr (.inr (.head _)))).2⟩
    · exact one p (List.mem_append.mpr (.inr (.tail _ hp))) (b p hp)
theorem news_add {h₀ h h' : Heap} {L t : Addr} {o : Obj} {m : Str → Option Value} {news' : List (Addr × Obj)} (F : Fr h₀ L h m) (N' : News h₀ L h' news') (n : h.get? t = none) (e : h'.get? t = some o) : News h₀ L h' ((t, o) :: news') := by
  intro p hp
  rcases List.mem_cons.mp hp with rfl | hp
  · refine ⟨e, fun q => ?_, ?_⟩
    · obtain ⟨oL, es, ep, hL, r⟩ := F.ns
      dsimp only at q; subst q; rw [n] at hL; cases hL
    · cases z : h₀.get? t with
      | none => rfl
      | some o' => have := F.keep _ _ z; rw [n] at this; cases this
  · exact N' p hp

theorem gnd_but {w : World} {h g h' : Heap} {news : List (Addr × Obj)} {S : List Addr} (GN : Gnd w h news g) (k : Keeps g h') (hn : ∀ p ∈ news, p.1 ∈ S ∨ (h.get? p.1 = some p.2 ∧ h'.get? p.1 = some p.2)) : KeepsBut S h h' := fun b o n e => by
  by_cases q : b ∈ news.map Prod.fst
  · obtain ⟨p, hp, rfl⟩ := List.mem_map.mp q
    rcases hn p hp with r | ⟨r1, r2⟩
    · exact absurd r n
    · rw [e] at r1; cases r1; exact r2
  · exact GN.kb h' k b o q e
theorem gnd_keeps {w : World} {h g h' : Heap} {news : List (Addr × Obj)} (GN : Gnd w h news g) (k : Keeps g h') (hn : ∀ p ∈ news, h.get? p.1 = some p.2) (hn' : ∀ p ∈ news, h'.get? p.1 = some p.2) : Keeps h h' := fun b o e =>
  gnd_but (S := []) GN k (fun p hp => .inr ⟨hn p hp, hn' p hp⟩) b o (by simp) e
theorem mem2 {a b : Addr} {oa ob : Obj} {h : Heap} (ha : h.get? a = some oa) (hb : h.get? b = some ob) : ∀ p ∈ [(a, oa), (b, ob)], h.get? p.1 = some p.2 := fun p hp => by
  simp only [List.mem_cons, List.not_mem_nil, or_false] at hp; rcases hp with rfl | rfl <;> assumption
noncomputable def AllNe (d : Nat) : List (Addr × Obj) → Prop
  | [] => True
  | p :: r => @Ne Nat p.1 d ∧ AllNe d r
theorem allNe_of {d : Addr} : ∀ {l : List (Addr × Obj)}, (∀ p ∈ l, p.1 ≠ d) → AllNe d l
  | [], _ => trivial
  | p :: _, h => ⟨h p (.head _), allNe_of fun q hq => h q (.tail _ hq)⟩
theorem ne_new {h₀ h : Heap} {L q : Addr} {news : List (Addr × Obj)} (N : News h₀ L h news) (nq : h.get? q = none) : ∀ p ∈ news, p.1 ≠ q := fun p hp e => by
  have z := (N p hp).1
  rw [e, nq] at z; cases z
theorem topE {g : Heap} {b : Prop} (h : ∃ p loose mean mg mb, Top p loose mean mg mb g) (k : ∀ {p loose mean mg mb}, Top p loose mean mg mb g → b) : b :=
  h.elim fun _ h => h.elim fun _ h => h.elim fun _ h => h.elim fun _ h => h.elim fun _ h => k h
section
variable {w : World} {s : Shared} {A : Around} {R : Result → Shared → Prop} {news : List (Addr × Obj)} {name qual : Str} {params : Arguments} {body : List Stmt} {scope : Scope} {dV kV doc pm cdv ct oc : Value} {an od : Option Addr} {osl : Array (Option Value)} {cl : List (Str × Addr)} {f : Addr} {args : Args} {binds : List (Str × Value)}
/-- a call of one of the text's defs: its body, over the heap without what it may turn -/
theorem enter_fn (G : Gd w s.heap (news.map Prod.fst)) (hroom : A.depth < recursionLimit)
    (ho : (Mine.hd.heap_39 w.params).lookup f = some ⟨oc, od, .func (fnX name qual params body scope cl dV kV doc pm an cdv ct), osl⟩) (hcd : codeIn (Mine.hd.heap_39 w.params) cdv qual = true)
    (hn : ∀ p ∈ news, s.heap.get? p.1 = some p.2)
    (hbind : BindsTo s (fnX name qual params body scope cl dV kV doc pm an cdv ct) args binds) (hloc : ∀ y ∈ binds, scope.names.lookup y.1 = some .local)
    (h : ∀ g L h₁, ∀ p loose mean mg mb, Top p loose mean mg mb g → (Mine.hd.heap_39 w.params).In g → Gnd w s.heap news g → Fr g L h₁ (fun y => binds.reverse.lookup y) → News g L h₁ news → (∀ p ∈ news, p.1 < L) → Keeps s.heap h₁ → s.heap.get? L = none →
      wpAny (model P0 w) (A.deeper (envX qual scope L f cdv cl)) (execs body (envX qual scope L f cdv cl)) (fun fl s' => R (.ok (.ret (match fl with | .ret v => v | _ => .none))) s') (fun _ _ => False)
        { s with heap := h₁, toks := s.toks + binds.length })
    (hcell : ∀ x ∈ scope.names, x.2 ≠ .cell) (hco : scope.isCoroutine = false) (hgen : scope.isGenerator = false) (hk : scope.kind = .function) : codeAny (model P0 w) A (.call (.ref f) args) R s := by
  refine topE G.T fun {p loose mean mg mb} T => ?_
  refine codeAny_call_def (fd := fnX name qual params body scope cl dV kV doc pm an cdv ct) (body := body) (binds := binds) hroom ((G.here).X _ _ ho) rfl (T.nolimit.keeps hide_keeps) (codeRec_of G.here.X hcd) rfl hbind hcell hloc (fun h₁ hns hk₁ => ?_) hco hgen hk
  have none_at : ∀ h : Heap, h.get? h.objs.size = none := fun h => by
    cases q : h.get? h.objs.size with
    | none => rfl
    | some o => exact absurd (Heap.lt_size q) (Nat.lt_irrefl _)
  exact wpAny_mono (h (hideAll s.heap (news.map Prod.fst)) s.heap.objs.size h₁ p loose mean mg mb T G.X (gnd_hide G) ⟨hns, fun b o e => hk₁ b o (of_hideAll _ e), Nat.le_of_eq (hideAll_size _ _)⟩
    (fun p hp => ⟨hk₁ _ _ (hn p hp), Nat.ne_of_lt (Heap.lt_size (hn p hp)), hideAll_none _ (List.mem_map_of_mem hp)⟩) (fun p hp => Heap.lt_size (hn p hp)) hk₁ (none_at _)) (fun fl s' hl => hl) fun _ _ y => y.elim
end

/-- what a run by x_run leaves -/
theorem mem_keeps {h₀ h : Heap} {news : List (Addr × Obj)} (D : X.Mem h₀ h [] news) : Keeps h₀ h := fun b o e => D.keep b o e (by simp [X.away])

noncomputable abbrev accO (dx : Addr) (items : Array Value) (n : Nat) : Obj := { cls := .ref 200, dict := some dx, data := .seq items n }
noncomputable abbrev tupO (items : List Value) : Obj := { cls := .type "tuple", data := .seq items.toArray }
end
section
theorem kw_B1_1 : True := by
  k_with_none
  k_with "execs cons" => ((with_reducible refine seq_cons fun zQ1 ztk zhQ1 => ?_); try dsimp only)
  trivial
section
variable {prog : Program} {w : World} {A : Around} {E : Value → Shared → Prop} {s : Shared} {K : Frag} {h₀ : Heap} {L : Addr} {m : Str → Option Value} {news news' : List (Addr × Obj)} {x dx C : Addr} {ox : Obj} {od : Option Obj} {items : Array Value} {n : Nat}
theorem acc_inst {h : Heap} {odx : Obj} (N : News h₀ L h news) (h1 : (x, accO dx items n) ∈ news) (h2 : (dx, odx) ∈ news) : InstAt h x (accO dx items n) 200 (some odx) := ⟨(N _ h1).1, rfl, rfl, (N _ h2).1⟩
/-- a built-in method met on an instance of one of the text's classes -/
theorem method_bi {name : Str} {id : String} {pl : Sem Bool} {Q : Value × List Value → Shared → Prop} {es : List DictEntry} {de : Nat} (F : Fr h₀ L s.heap m) (X₀ : K.In h₀) (I : InstAt s.heap x ox C (some (dictOf es de))) {ga : String} (hga : findIn K (.ref C) "__getattribute__" = some (some (.builtin ga))) (hcan : (Manifest.canonical ga != "object.__getattribute__") = false) (hk : findIn K (.ref C) "__getattr__" = some none)
    (hf : findIn K (.ref C) name = some (some (.builtin id))) (ht : typeOf (.builtin id) = pure (.type "method_descriptor")) (hl : getL name es = some none) (h : Q (.builtin id, [.ref x]) s) :
    wpAny (model prog w) A (getMethod (.ref x) name pl) Q E s := by
  have X := X₀.keeps F.keep
  unfold getMethod specialOf
  refine wpAny_bind (wpAny_bind (I.type.here ((looks_findIn X hga).here ?_)))
  dsimp only
  rw [hcan, if_neg (by decide)]
  refine wpAny_bind (wpAny_bind (I.type.here ((looks_findIn X hk).here ?_)))
  refine wpAny_bind (wpAny_bind (I.type.here ((looks_findIn X hf).here (wpAny_bind (wpAny_of_eq ht ?_)))))
  rw [if_neg (by decide +kernel)]
  refine wpAny_bind (wpAny_loadPart I.at_ ?_)
  have hd := I.dict
  cases e : ox.dict with
  | none => rw [e] at hd; exact hd.elim
  | some d =>
    rw [e] at hd
    dsimp only at hd ⊢
    refine wpAny_bind ?_
    unfold nsGet
    refine wpAny_bind (wpAny_loadPart hd ?_)
    rw [nsLook_of (show lookIn name (dictOf es de) = some none from hl)]
    exact wpAny_pure (wpAny_bind (wpAny_rule (wpAny_pure h)))
theorem check_meth {M : Model} {i owner n : String} {self : Value} {rest : List Value} {kw : List (Str × Value)} {Q : Unit → Shared → Prop}
    (hk : builtinKind i = some .method) (hs : splitId i = some (owner, n)) (hi : Looks M s.heap (isInstance self (.type owner)) true) (ha : argsOk i ⟨self :: rest, kw⟩) (q : Q () s) :
    wpAny M A (checkBuiltinCall i ⟨self :: rest, kw⟩) Q E s := by
  simp only [checkBuiltinCall, hk, hs]
  refine wpAny_bind (hi.here ?_)
  simp only [Bool.not_true, Bool.false_eq_true, if_false]
  cases hsig : Manifest.signature? i with
  | none => exact wpAny_pure q
  | some sig =>
    simp only [argsOk, hsig] at ha
    have h2 : Bind.checkArgs i sig ⟨self :: rest, kw⟩ = pure () := ha
    show wpAny M A (Bind.checkArgs i sig ⟨self :: rest, kw⟩) Q E s
    rw [h2]; exact wpAny_pure q
theorem acc_isList {M : Model} {h : Heap} {odx : Option Obj} (X : K.In h) (I : InstAt h x ox C odx) (hm : mroIn K C (.type "list") = some true) : Looks M h (isInstance (.ref x) (.type "list")) true := I.type.andThen (looks_mroIn X hm)
theorem call_bi {id owner n : String} {b : Builtin} {self : Value} {rest : List Value} {Q : Value → Shared → Prop} (hp : plainId id = true) (hk : builtinKind id = some .method) (hs : splitId id = some (owner, n))
    (hi : Looks (model prog w) s.heap (isInstance self (.type owner)) true) (hb : entryFor table id = some b) (ha : argsOk id ⟨self :: rest, []⟩)
    (hc : wpAny (model prog w) A.in1 (b ⟨self :: rest, []⟩) (fun fin s' => ∃ v, fin = .done (.ret v) ∧ Q v s') E s) :
    wpAny (model prog w) A (call (.builtin id) (self :: rest)) Q E s := by
  refine wpAny_call (codeAny_call_builtin hp hb (check_meth hk hs hi ha (wpAny_mono hc (fun fin s' h' => ?_) fun _ _ h' => h')))
  obtain ⟨v, rfl, hv⟩ := h'; exact hv
theorem call_bi_slot {id owner n : String} {b : Builtin} {self : Value} {rest : List Value} {Q : Value → Shared → Prop} (hp : plainId id = true) (hk : builtinKind id = some .slot) (hs : splitId id = some (owner, n))
    (hi : Looks (model prog w) s.heap (isInstance self (.type owner)) true) (hb : entryFor table id = some b) (ha : argsOk id ⟨self :: rest, []⟩)
    (hc : wpAny (model prog w) A.in1 (b ⟨self :: rest, []⟩) (fun fin s' => ∃ v, fin = .done (.ret v) ∧ Q v s') E s) :
    wpAny (model prog w) A (call (.builtin id) (self :: rest)) Q E s := by
  refine wpAny_call (codeAny_call_builtin hp hb (check_slot hk hs hi ha (wpAny_mono hc (fun fin s' h' => ?_) fun _ _ h' => h')))
  obtain ⟨v, rfl, hv⟩ := h'; exact hv
theorem mapSeq_acc (its : Array Value) (n : Nat) (f : Array Value → Array Value) : Obj.mapSeq f (accO dx its n) = accO dx (f its) (if (f its).size == its.size then n else n + 1) := rfl
theorem append_acc {v : Value} {Q : Value → Shared → Prop} {odx : Obj} (F : Fr h₀ L s.heap m) (X₀ : K.In h₀) (N : News h₀ L s.heap news) (h2 : (dx, odx) ∈ news) (hm : mroIn K 200 (.type "list") = some true)
    (U : Upd x (accO dx items n) (accO dx (items.push v) (n + 1)) news news')
    (h : ∀ h', Fr h₀ L h' m → News h₀ L h' news' → Q .none { s with heap := h' }) (hsz : items.size ≤ sizeLine) : wpAny (model prog w) A (call (.builtin "list.append") [.ref x, v]) Q E s := by
  obtain ⟨pre, post, rfl, rfl, a, b⟩ := U.split
  have z := N (x, accO dx items n) (List.mem_append.mpr (.inr (.head _)))
  refine call_bi (owner := "list") (n := "append") slot_list_append.plain (by decide +kernel) (by decide +kernel) (acc_isList (X₀.keeps F.keep) (acc_inst N (List.mem_append.mpr (.inr (.head _))) h2) hm) entry_list_append (args_list_append _ _) ?_
  show wpAny _ _ (updateSeq x (·.push v) >>= fun _ => ret .none) _ _ s
  refine wpAny_bind ?_
  refine wpAny_updateSeq z.1 rfl (wpAny_pure ⟨.none, rfl, h _ (F.change (Heap.SameBut.update ..) z.2.1 z.2.2) (news_set N a b (Heap.SameBut.update ..) ?_)⟩) hsz (by simp; omega)
  rw [Heap.get?_update_self _ z.1 (by rw [mapSeq_acc]; rfl), mapSeq_acc]
  simp
end

theorem kw_B1_2 : True := by
  k_with "k_inst" => (refine' acc_inst ?q2a ?q2b ?q2c; (case q2a => k_asm); (case q2b => k_mem); (case q2c => k_mem))
  k_with "getMethod ref" => (k_here; k_dflt (refine' method_bi ?q3a ?q3b ?q3c ?q3d ?q3h ?q3i ?q3e ?q3f ?q3g ?_; (case q3a => k_asm); (case q3b => k_asm); (case q3c => k_inst); (case q3d => k_is); (case q3h => kernel_rfl); (case q3i => k_is); (case q3e => k_is); (case q3f => kernel_rfl); (case q3g => first | assumption | k_get); k_whole))
  k_with "call builtin:list.append" => (k_here; (with_reducible show wpAny _ _ (call (Value.builtin _) [Value.ref _, _]) _ _ _); k_dflt (refine' append_acc ?q4a ?q4b ?q4c ?q4d ?q4e ?q4f ?_ ?q4g; (case q4a => k_asm); (case q4b => k_asm); (case q4c => k_asm); (case q4e => k_is); (case q4f => k_upd); (case q4d => k_mem); (case q4g => assumption); k_whole); intro zh' zF' zN'; (try k_sweep))
  k_with "ktr_enter" => (refine' enter_fn ?q5a ?q5d ?q5e ?q5f ?q5g ?q5h ?q5i ?_ ?q5j ?q5k ?q5b ?q5c; (case q5g => assumption); (case q5a => assumption); (case q5e => k_is); (case q5f => k_is); (case q5d => decide); (case q5h => exact BindsTo.of_eq rfl); (case q5j => decide); (case q5i => exact locs rfl); (case q5k => exact rfl); (case q5b => exact rfl); (case q5c => exact rfl); k_whole; rintro zg' zL' zh' zp' zl' zmean' zmg' zmb' zT' zX' zGN zF' zN' zl1 zK1 zhL'; (try dsimp only); (try k_fold))
  trivial
theorem fill1 (w : World) (h : Heap) (X : (Mine.hd.heap_39 w.params).In h) (e : PySem.Challenge.rw_wu0089_01.foot = PySem.Challenge.rw_wu0089_01.foot) : True := by
  revert X e; k_fill; intro _ _; trivial
noncomputable abbrev D0 : Around := At 500 3000
theorem push_code {w : World} {s : Shared} {x dx : Addr} {items : Array Value} {n de : Nat} {es : List DictEntry} {v f : Value} {tv : Tok} {Q E : Value → Shared → Prop}
    (G : Gd w s.heap [x, dx]) (hx : s.heap.get? x = some (accO dx items n)) (hd : s.heap.get? dx = some (dictOf es de)) (hes : getL "append" es = some none) (hne : @Ne Nat x dx) (hsz : items.size ≤ sizeLine)
    (hQ : ∀ h' t tk, KeepsBut [x] s.heap h' → h'.get? x = some (accO dx (items.push (.ref t)) (n + 1)) → h'.get? t = some (tupO [f, v]) → s.heap.get? t = none → Q .none { s with heap := h', toks := tk }) :
    codeAny (model P0 w) D0 (.call (.ref 144) ⟨[.ref x, f, v], []⟩) (fun r s' => match r with | .ok (.ret v) => Q v s' | .ok _ => False | .error e => E e s') s := by
  have hn : ∀ p ∈ [(x, accO dx items n), (dx, dictOf es de)], s.heap.get? p.1 = some p.2 := by
    refine mem_all2 ?_ ?_ <;> assumption
  k_dflt ktr_enter
  k_steps
  rename News _ _ _ _ => N
  rename Gnd w s.heap _ _ => GN
  have k := GN.kb _ (‹Fr _ _ _ _›).keep
  have hd' := (N (dx, _) (by k_mem)).1
  have hx' := (N (x, _) (by k_mem)).1
  have ht' := (N (_, tupO [f, v]) (by k_mem))
  refine hQ _ _ _ (fun b o n e => ?_) hx' ht'.1 (GN.fresh _ ht'.2.2 ?_)
  · by_cases q : b = dx
    · subst q; rw [hd] at e; cases e; exact hd'
    · exact k b o (by simp at n ⊢; exact ⟨n, q⟩) e
  · simp only [List.map_cons, List.map_nil, List.mem_cons, List.not_mem_nil, or_false]; rintro (q | q) <;> exact absurd q (by k_ne)
theorem push_spec {w : World} {s : Shared} {x dx : Addr} {items : Array Value} {n de : Nat} {es : List DictEntry} {v f : Value} {tv : Tok} {Q E : Value → Shared → Prop}
    (G : Gd w s.heap [x, dx]) (hx : s.heap.get? x = some (accO dx items n)) (hd : s.heap.get? dx = some (dictOf es de)) (hes : getL "append" es = some none) (hne : @Ne Nat x dx) (hsz : items.size ≤ sizeLine)
    (hQ : ∀ h' t tk, KeepsBut [x] s.heap h' → h'.get? x = some (accO dx (items.push (.ref t)) (n + 1)) → h'.get? t = some (tupO [f, v]) → s.heap.get? t = none → Q .none { s with heap := h', toks := tk }) :
    wpAny (model P0 w) D0 (call (.ref 144) [.ref x, f, v]) Q E s :=
  wpAny_call (push_code (tv := tv) G hx hd hes hne hsz hQ)
end
section
open PySem.W.X in
theorem xEnd {h₀ h : Heap} {news : List (Addr × Obj)} {R : Prop} (D : Mem h₀ h [] news) (k : Mem h₀ h [] news → R) : R := k D
open PySem.W.X in
theorem noneX {h₀ h : Heap} {news : List (Addr × Obj)} (D : Mem h₀ h [] news) {t : Addr} {o : Obj} (i : Nat) (hi : news[i]? = some (t, o)) : h₀.get? t = none ∧ h.get? t = some o :=
  ⟨(D.nw _ (List.mem_of_getElem? hi)).2, (D.nw _ (List.mem_of_getElem? hi)).1⟩
noncomputable abbrev boundO (cls id : String) (x : Addr) : Obj := { cls := .type cls, data := .fields #[.builtin id, .ref x] }
section
variable {w : World} {s : Shared} {x dx : Addr} {items : Array Value} {n : Nat} {Q E : Value → Shared → Prop}
local macro_rules | `(tactic| x_close) => `(tactic| (refine xEnd (by assumption) fun D => ?_; apply_assumption <;> first | exact mem_keeps D | exact (noneX D 0 rfl).1 | exact (noneX D 0 rfl).2))
theorem bind_pop (XX : (KX w.params).In s.heap) (hx : s.heap.get? x = some ⟨.ref 200, some dx, .seq items n, #[]⟩)
   (hQ : ∀ h' q tk, Keeps s.heap h' → s.heap.get? q = none → h'.get? q = some (boundO "builtin_function_or_method" "list.pop" x) → Q (.ref q) ⟨h', s.gens, s.drawn, tk, s.os⟩) :
   wpAny (model PySem.Challenge.pw_wu0089_01 w) (At 600 4000) (call (.builtin "method_descriptor.__get__") [.builtin "list.pop", .ref x, .ref 200]) Q E s := by
  x_run
theorem bind_len (XX : (KX w.params).In s.heap) (hx : s.heap.get? x = some ⟨.ref 200, some dx, .seq items n, #[]⟩)
   (hQ : ∀ h' q tk, Keeps s.heap h' → s.heap.get? q = none → h'.get? q = some (boundO "method-wrapper" "list.__len__" x) → Q (.ref q) ⟨h', s.gens, s.drawn, tk, s.os⟩) :
   wpAny (model PySem.Challenge.pw_wu0089_01 w) (At 600 4000) (call (.builtin "wrapper_descriptor.__get__") [.builtin "list.__len__", .ref x, .ref 200]) Q E s := by
  x_run
theorem bind_init (XX : (KX w.params).In s.heap) (hx : s.heap.get? x = some ⟨.ref 200, some dx, .seq items n, #[]⟩)
   (hQ : ∀ h' q tk, Keeps s.heap h' → s.heap.get? q = none → h'.get? q = some (boundO "method-wrapper" "list.__init__" x) → Q (.ref q) ⟨h', s.gens, s.drawn, tk, s.os⟩) :
   wpAny (model PySem.Challenge.pw_wu0089_01 w) (At 600 4000) (call (.builtin "wrapper_descriptor.__get__") [.builtin "list.__init__", .ref x, .ref 200]) Q E s := by
  x_run
end
section
variable {prog : Program} {w : World} {M : Model} {A : Around} {E : Value → Shared → Prop} {h : Heap} {g : Array GenState} {d : Drawn} {t : Nat} {os : OsState}
theorem super_ga {so D x C : Addr} {id T gid : String} {l₀ l : List Value} {K : Frag} {name : Str} {tk : Tok} {Q : Fin → Shared → Prop}
    (hso : h.get? so = some (ks_superObj D x C)) (hno : Looks (model prog w) h (opaqueClassAbove (.ref C)) none)
    (hC : Looks (model prog w) h (mroOf (.ref C)) l₀) (hl : (l₀.dropWhile (· != .ref D)).drop 1 = l) (X : K.In h)
    (hf : alongIn K name l = some (some (.builtin id))) (hty : typeOf (.builtin id) = pure (.type T)) (hlk : typeLookup (.type T) "__get__" = pure (some (.builtin gid))) (hxC : x ≠ C) (hn : (name == ("__class__" : Str)) = false)
    (hc : wpAny (model prog w) A (call (.builtin gid) [.builtin id, .ref x, .ref C]) (fun v s' => Q (.done (.ret v)) s') E ⟨h, g, d, t, os⟩) :
    wpAny (model prog w) A (Builtin.«super.__getattribute__» ⟨[.ref so, .str name tk], []⟩) Q E ⟨h, g, d, t, os⟩ := by
  have hne : (Value.ref x == Value.ref C) = false := by simp [hxC]
  have hdt : (ks_superObj D x C).data = .fields #[.ref D, .ref x, .ref C] := rfl
  have f0 : (#[.ref D, .ref x, .ref C] : Array Value)[0]? = some (.ref D) := rfl
  have f1 : (#[.ref D, .ref x, .ref C] : Array Value)[1]? = some (.ref x) := rfl
  have f2 : (#[.ref D, .ref x, .ref C] : Array Value)[2]? = some (.ref C) := rfl
  unfold Builtin.«super.__getattribute__»
  repeat (first
    | (with_reducible refine wpAny_field hso hdt f0 ?_) | (with_reducible refine wpAny_field hso hdt f1 ?_) | (with_reducible refine wpAny_field hso hdt f2 ?_)
    | (with_reducible refine ks_wpAny_notOpaque hno ?_)
    | (with_reducible refine Looks.at hC ?_; rw [hl])
    | (refine ks_forIn_along X (fun _ _ => rfl) rfl ?_ hf)
    | (with_reducible refine wpAny_of_eq hty ?_)
    | (with_reducible refine wpAny_of_eq hlk ?_)
    | (with_reducible refine wpAny_mono hc (fun v s' hv => ?_) (fun _ _ z => z))
    | (simp only [hn, hne, Bool.or_false, Bool.false_eq_true, if_false])
    | wp_step
    | dsimp only)
  all_goals first | assumption | trace_state
end
section
variable {w : World} {A : Around} {E : Value → Shared → Prop} {h : Heap} {g : Array GenState} {d : Drawn} {t : Nat} {os : OsState} {K : Frag}
/-- a built-in method met on a super object -/
theorem super_method {so D x C : Addr} {id T gid : String} {l₀ l : List Value} {name : Str} {pl : Sem Bool} {Q : Value × List Value → Shared → Prop}
    (hso : h.get? so = some (ks_superObj D x C)) (hno : Looks (model PySem.Challenge.rw_wu0089_01.prog w) h (opaqueClassAbove (.ref C)) none)
    (hC : Looks (model PySem.Challenge.rw_wu0089_01.prog w) h (mroOf (.ref C)) l₀) (hl : (l₀.dropWhile (· != .ref D)).drop 1 = l) (X : K.In h)
    (hf : alongIn K name l = some (some (.builtin id))) (hty : typeOf (.builtin id) = pure (.type T)) (hlk : typeLookup (.type T) "__get__" = pure (some (.builtin gid))) (hxC : x ≠ C) (hn : (name == ("__class__" : Str)) = false)
    (hc : wpAny (model PySem.Challenge.rw_wu0089_01.prog w) A.in1 (call (.builtin gid) [.builtin id, .ref x, .ref C]) (fun v s' => ∃ q, v = .ref q ∧ Q (v, []) s') (fun _ _ => False) ⟨h, g, d, t + 1, os⟩) :
    wpAny (model PySem.Challenge.rw_wu0089_01.prog w) A (getMethod (.ref so) name pl) Q E ⟨h, g, d, t, os⟩ := by
  have hlk2 := PySem.F.ks_slot_super_ga.lookup
  have hcan := PySem.F.ks_canon_super_ga
  have hT : ∀ t', (⟨h, g, d, t', os⟩ : Shared).TypeIs (.ref so) "super" := fun _ => ⟨_, hso, rfl⟩
  unfold getMethod
  refine wpAny_bind (wpAny_specialOf (hT _) hlk2 ?_)
  show wpAny _ _ (if (Manifest.canonical "super.__getattribute__" != "object.__getattribute__") = true then _ else _) _ _ _
  rw [if_pos hcan]
  unfold getAttr getAttrBy
  refine wpAny_bind (wpAny_bind (wpAny_mkText (wpAny_holding (wpAny_bind (wpAny_typeOf (hT _) (wpAny_bind (wpAny_of_eq hlk2 ?_)))))))
  show wpAny _ _ (getAttrByItsOwn (.ref so) (.str name t) (.type "super") (.builtin "super.__getattribute__") true false) _ _ _
  unfold getAttrByItsOwn hookBefore callGetattribute boundAndCalled
  refine wpAny_bind (wpAny_of_eq (show (if onTheHeap (.type "super") then typeLookup (.type "super") "__getattr__" else pure none) = pure none from rfl) ?_)
  refine wpAny_bind (wpAny_attempt (wpAny_holding ?_))
  show wpAny _ _ (bindSpecial (.builtin "super.__getattribute__") (.ref so) >>= _) _ _ _
  refine wpAny_bind (wpAny_of_eq (PySem.F.ks_slot_super_ga.bind _) ?_)
  refine wpAny_mono (Q := fun v s' => ∃ q, v = .ref q ∧ Q (v, []) s') (E := fun _ _ => False)
    (wpAny_call_entry PySem.F.ks_slot_super_ga (hT _) PySem.F.ks_entry_super_ga (super_ga hso hno hC hl X hf hty hlk hxC hn (wpAny_mono hc (fun v s' hv => ⟨v, rfl, hv⟩) fun _ _ z => z.elim)) (PySem.F.ks_gaArgs_super _ _)) (fun v s' hv => ?_) fun _ _ z => z.elim
  obtain ⟨q, rfl, hv⟩ := hv
  exact wpAny_pure (wpAny_pure hv)
end
section
variable {w : World} {s : Shared} {A : Around} {E : Value → Shared → Prop} {h₀ : Heap} {L : Addr} {m : Str → Option Value} {news : List (Addr × Obj)} {x dx so : Addr} {items : Array Value} {n : Nat} {Q : Value × List Value → Shared → Prop} {pl : Sem Bool}
theorem super_K {id T gid cls : String} {name : Str} {cd : ClassData} (F : Fr h₀ L s.heap m) (X₀ : (Mine.hd.heap_39 w.params).In h₀) (N : News h₀ L s.heap news) (hso : (so, ks_superObj 200 x 200) ∈ news)
    (hcl : clsIn (Mine.hd.heap_39 w.params) 200 = some cd) (hx200 : x ≠ 200) (ho : nsIn (Mine.hd.heap_39 w.params) cStatics "thirdparty.any" = some none)
    (hf : ks_superIn (Mine.hd.heap_39 w.params) 200 200 name = some (some (.builtin id))) (hty : typeOf (.builtin id) = pure (.type T)) (hlk : typeLookup (.type T) "__get__" = pure (some (.builtin gid))) (hn : (name == ("__class__" : Str)) = false)
    (hc : ∀ {Q : Value → Shared → Prop} {E : Value → Shared → Prop} {t : Nat}, (∀ h' q tk, Keeps s.heap h' → s.heap.get? q = none → h'.get? q = some (boundO cls id x) → Q (.ref q) ⟨h', s.gens, s.drawn, tk, s.os⟩) →
      wpAny (model PySem.Challenge.rw_wu0089_01.prog w) A.in1 (call (.builtin gid) [.builtin id, .ref x, .ref 200]) Q E ⟨s.heap, s.gens, s.drawn, t, s.os⟩)
    (h : ∀ q h' tk, Fr h₀ L h' m → News h₀ L h' ((q, boundO cls id x) :: news) → (∀ p ∈ news, p.1 ≠ q) → Q (.ref q, []) { s with heap := h', toks := tk }) :
    wpAny (model PySem.Challenge.rw_wu0089_01.prog w) A (getMethod (.ref so) name pl) Q E s := by
  have X := X₀.keeps F.keep
  have hf' : alongIn (Mine.hd.heap_39 w.params) name ((cd.mro.dropWhile (· != .ref 200)).drop 1) = some (some (.builtin id)) := by
    unfold ks_superIn at hf; rw [hcl] at hf; exact hf
  obtain ⟨hh, gg, dd, tt, oo⟩ := s
  dsimp only at F N X hc h ⊢
  refine super_method (N _ hso).1 (looks_opaque X ho) (l₀ := cd.mro) (fun A Q E s k q => wpAny_bind ((looks_clsIn X hcl) A _ E s k (wpAny_pure q))) rfl X hf' hty hlk hx200 hn ?_
  refine hc fun h' q tk k nq eq => ⟨q, rfl, ?_⟩
  refine h q h' tk (fr_keeps F k) (news_add F (news_keeps N k) nq eq) fun p hp e => ?_
  have z := (N p hp).1
  rw [e, nq] at z; cases z
end
end
section
section
variable {w : World} {s : Shared} {A : Around} {R : Result → Shared → Prop} {news : List (Addr × Obj)} {name qual : Str} {params : Arguments} {body : List Stmt} {scope : Scope} {dV kV doc pm cdv ct oc : Value} {an od : Option Addr} {osl : Array (Option Value)} {cl : List (Str × Addr)} {f : Addr} {args : Args} {binds : List (Str × Value)}
theorem enter_at (G : Gd w s.heap (news.map Prod.fst)) (hroom : A.depth < recursionLimit)
    (ho : (Mine.hd.heap_39 w.params).lookup f = some ⟨oc, od, .func (fnX name qual params body scope cl dV kV doc pm an cdv ct), osl⟩) (hcd : codeIn (Mine.hd.heap_39 w.params) cdv qual = true)
    (hn : ∀ p ∈ news, s.heap.get? p.1 = some p.2)
    (hbind : BindsTo s (fnX name qual params body scope cl dV kV doc pm an cdv ct) args binds) (hloc : ∀ y ∈ binds, scope.names.lookup y.1 = some .local)
    (h : ∀ g L h₁, ∀ p loose mean mg mb, Top p loose mean mg mb g → (Mine.hd.heap_39 w.params).In g → Gnd w s.heap news g → Fr g L h₁ (fun y => binds.reverse.lookup y) → News g L h₁ news → (∀ p ∈ news, p.1 < L) → Keeps s.heap h₁ → s.heap.get? L = none →
      _root_.PySem.wpAt (model P0 w) (A.deeper (envX qual scope L f cdv cl)) (.func body (envX qual scope L f cdv cl)) (execs body (envX qual scope L f cdv cl)) (fun fl s' => R (.ok (.ret (match fl with | .ret v => v | _ => .none))) s') (fun _ _ => False)
        { s with heap := h₁, toks := s.toks + binds.length })
    (hcell : ∀ x ∈ scope.names, x.2 ≠ .cell) (hco : scope.isCoroutine = false) (hgen : scope.isGenerator = false) (hk : scope.kind = .function) : codeAny (model P0 w) A (.call (.ref f) args) R s := by
  refine topE G.T fun {p loose mean mg mb} T => ?_
  refine ks_codeAny_call_defAt (fd := fnX name qual params body scope cl dV kV doc pm an cdv ct) (body := body) (binds := binds) hroom ((G.here).X _ _ ho) rfl (T.nolimit.keeps hide_keeps) (codeRec_of G.here.X hcd) rfl hbind hcell hloc (fun h₁ hns hk₁ => ?_) hco hgen hk
  have none_at : ∀ h : Heap, h.get? h.objs.size = none := fun h => by
    cases q : h.get? h.objs.size with
    | none => rfl
    | some o => exact absurd (Heap.lt_size q) (Nat.lt_irrefl _)
  exact ks_wpAt_mono (h (hideAll s.heap (news.map Prod.fst)) s.heap.objs.size h₁ p loose mean mg mb T G.X (gnd_hide G) ⟨hns, fun b o e => hk₁ b o (of_hideAll _ e), Nat.le_of_eq (hideAll_size _ _)⟩
    (fun p hp => ⟨hk₁ _ _ (hn p hp), Nat.ne_of_lt (Heap.lt_size (hn p hp)), hideAll_none _ (List.mem_map_of_mem hp)⟩) (fun p hp => Heap.lt_size (hn p hp)) hk₁ (none_at _)) (fun fl s' hl => hl) fun _ _ y => y.elim
end
section
variable {w : World} {s : Shared} {A : Around} {E : Value → Shared → Prop} {h₀ : Heap} {L : Addr} {m : Str → Option Value} {news news' : List (Addr × Obj)} {x dx q : Addr} {items : Array Value} {n : Nat} {cls id : String} {K : Frag}
/-- the keeper of a bound built-in method is the machine -/
theorem bound_keeper {M : Model} {h : Heap} (hq : h.get? q = some (boundO cls id x)) (hc : cls = "builtin_function_or_method" ∨ cls = "method-wrapper") : Looks M h (keeperOf (.ref q)) .machine := by
  unfold keeperOf
  refine Looks.andThen (a := boundO cls id x) (Looks.ld (part := none) hq) ?_
  rcases hc with rfl | rfl <;> exact .now
theorem callWith_B0 {pos : Pos} {env : Env} {Q : Value → Shared → Prop} (N : News h₀ L s.heap news) (hq : (q, boundO cls id x) ∈ news) (hc : cls = "builtin_function_or_method" ∨ cls = "method-wrapper")
    (h : wpAny (model P0 w) A (call (.ref q) []) Q E s) : wpAny (model P0 w) A (callWith pos (.ref q) [] (backTo pos (starEach [] env)) []) Q E s :=
  callWith_of (P := fun h => h.get? q = some (boundO cls id x)) rfl (fun h hh => ⟨.machine, .inr (.inl rfl), bound_keeper hh hc⟩) (evalArgs_nil3 ⟨(N _ hq).1, h⟩)
/-- a call of a bound built-in method of an accumulator -/
theorem call_bound {b : Builtin} {Q : Value → Shared → Prop} (hq : s.heap.get? q = some (boundO cls id x)) (hc : cls = "builtin_function_or_method" ∨ cls = "method-wrapper")
    (hchk : ∀ {Q : Unit → Shared → Prop} {E : Value → Shared → Prop}, Q () s → wpAny (model P0 w) A.in1 (checkBoundCall id ⟨[.ref x], []⟩) Q E s) (hp : plainId id = true) (hb : entryFor table id = some b)
    (h : wpAny (model P0 w) A.in1 (b ⟨[.ref x], []⟩) (fun fin s' => ∃ v, fin = .done (.ret v) ∧ Q v s') (fun _ _ => False) s) : wpAny (model P0 w) A (call (.ref q) []) Q E s := by
  refine wpAny_call (codeAny_of_tree ?_)
  show wpAny _ A.in1 (callAny (.ref q) ⟨[], []⟩) _ _ s
  unfold callAny
  refine wpAny_bind (wpAny_load hq ?_)
  have z : codeAny (model P0 w) A (.builtin id ⟨[.ref x], []⟩) (fun r s' => match r with | .ok (.ret v) => Q v s' | .ok _ => False | .error e => E e s') s := by
    refine codeAny_builtin hb ?_
    rw [Around.under_plainId hp]
    refine wpAny_mono h (fun fin s' h' => ?_) fun _ _ h' => h'.elim
    obtain ⟨v, rfl, hv⟩ := h'; exact hv
  rcases hc with rfl | rfl <;> exact wpAny_bind (hchk (wpAny_pure ⟨plainId_quiet hp _, z⟩))
theorem sig_pop : Manifest.signature? "list.pop" = some ⟨.positional, "list.pop", "pop", .self, [⟨"index", .posOnly, false⟩]⟩ := by kernel_rfl
theorem kind_pop : builtinKind "list.pop" = some .method := by decide +kernel
theorem check_pop {ox : Obj} {od : Option Obj} {cd : ClassData} {Q : Unit → Shared → Prop} (X : K.In s.heap) (I : InstAt s.heap x ox 200 od)
    (hmod : mroIn K 200 (.type "module") = some false) (hcl : clsIn K 200 = some cd) (hty : typeIn K (.ref 200) = some (.type "type")) (hqn : cd.qualname = "_Accumulator")
    (h : Q () s) : wpAny (model P0 w) A (checkBoundCall "list.pop" ⟨[.ref x], []⟩) Q E s := by
  unfold checkBoundCall
  rw [sig_pop, kind_pop]
  dsimp only
  rw [if_neg (by decide +kernel)]
  refine wpAny_bind ((show Looks (model P0 w) s.heap (isInstance (.ref x) (.type "module")) false from I.type.andThen (looks_mroIn X hmod)).here ?_)
  rw [show (Manifest.varargsMethods.contains "list.pop" || false) = false from by decide +kernel, if_neg (by decide)]
  have hnc : ∀ c, ox.data ≠ .cls c := fun c e => by
    have := I.no
    unfold notCls at this
    rw [e] at this
    exact Bool.noConfusion this
  obtain ⟨hh, gg, dd, tt, oo⟩ := s
  refine wpAny_bind (ks_wpAny_isType_inst I.at_ hnc ?_)
  rw [if_neg (by decide)]
  refine wpAny_bind (I.type.at ?_)
  dsimp only
  refine wpAny_bind ((looks_clsIn X hcl).at (wpAny_bind ((looks_typeIn X hty).at ?_)))
  rw [if_pos (by decide +kernel), hqn]
  refine wpAny_of_eq ?_ h
  kernel_rfl
end
end
section
section
variable {w : World} {s : Shared} {A : Around} {E : Value → Shared → Prop} {x dx : Addr} {its : Array Value} {n : Nat} {v : Value}
theorem erase_last (its : Array Value) (v : Value) : (its.push v).eraseIdxIfInBounds its.size = its := by
  unfold Array.eraseIdxIfInBounds
  rw [dif_pos (by simp)]
  apply Array.ext'
  simp [Array.toList_eraseIdx, List.eraseIdx_append_of_length_le]
theorem pop_op {Q : Fin → Shared → Prop} (hx : s.heap.get? x = some (accO dx (its.push v) n)) (hsz : (its.push v).size ≤ sizeLine)
    (h : ∀ h', KeepsBut [x] s.heap h' → h'.get? x = some (accO dx its (n + 1)) → Q (.done (.ret v)) { s with heap := h' }) : wpAny (model P0 w) A (Builtin.«list.pop» ⟨[.ref x], []⟩) Q E s := by
  have e1 : (its.push v).isEmpty = false := by simp [Array.isEmpty]
  have e2 : ((seqIndex? (-1) (its.push v).size).bind fun k => (its.push v)[k]?.map (k, ·)) = some (its.size, v) := by
    have : seqIndex? (-1) (its.push v).size = some its.size := by
      unfold seqIndex?
      simp
      omega
    rw [this]
    simp
  have hf := hx
  unfold Builtin.«list.pop»
  refine wpAny_bind ?_
  show wpAny _ _ (pure (Value.ref x, [])) _ _ _
  refine wpAny_pure ?_
  dsimp only
  refine wpAny_bind (wpAny_pure ?_)
  rw [if_neg (by decide)]
  unfold Builtin.List.listItems
  refine wpAny_bind (wpAny_bind (wpAny_seqItems hx rfl (wpAny_pure ?_)))
  rw [e1]
  rw [if_neg (by decide), e2]
  dsimp only
  refine wpAny_bind (wpAny_updateSeq hx rfl ?_ hsz (by rw [erase_last]; simp [sizeLine] at hsz ⊢; omega))
  refine wpAny_pure (h _ (fun b o nb e => ?_) ?_)
  · exact (Heap.get?_update_other _ _ (fun q : x = b => nb (by simp [q]))).trans e
  · rw [Heap.get?_update_self _ hx (by rw [mapSeq_acc]; rfl), mapSeq_acc, erase_last]
    simp
end
section
variable {w : World} {s : Shared} {A : Around} {E : Value → Shared → Prop} {h₀ : Heap} {L : Addr} {m : Str → Option Value} {news news' : List (Addr × Obj)} {x dx q : Addr} {items its : Array Value} {n : Nat} {v : Value} {K : Frag} {Q : Value → Shared → Prop} {odx : Obj} {cd : ClassData}
theorem call_pop_K (F : Fr h₀ L s.heap m) (X₀ : K.In h₀) (N : News h₀ L s.heap news) (hq : (q, boundO "builtin_function_or_method" "list.pop" x) ∈ news) (h2 : (dx, odx) ∈ news)
    (U : Upd x (accO dx (its.push v) n) (accO dx its (n + 1)) news news') (hsz : (its.push v).size ≤ sizeLine)
    (hmod : mroIn K 200 (.type "module") = some false) (hcl : clsIn K 200 = some cd) (hty : typeIn K (.ref 200) = some (.type "type")) (hqn : cd.qualname = "_Accumulator")
    (h : ∀ h', Fr h₀ L h' m → News h₀ L h' news' → Q v { s with heap := h' }) : wpAny (model P0 w) A (call (.ref q) []) Q E s := by
  have hx := upd_mem U
  refine call_bound (N _ hq).1 (.inl rfl) (fun q => check_pop (X₀.keeps F.keep) (acc_inst N hx h2) hmod hcl hty hqn q) (by decide +kernel) PySem.F.entry_list_pop (pop_op (N _ hx).1 hsz fun h' k e => ⟨v, rfl, ?_⟩)
  exact h h' (fr_but F N hx k) (news_but N U k e)
theorem len_op {Q : Fin → Shared → Prop} (hx : s.heap.get? x = some (accO dx items n)) (h : Q (.done (.ret (.int items.size s.toks))) { s with toks := s.toks + 1 }) : wpAny (model P0 w) A (Builtin.«list.__len__» ⟨[.ref x], []⟩) Q E s := by
  unfold Builtin.«list.__len__»
  refine wpAny_bind ?_
  show wpAny _ _ (pure (Value.ref x, [])) _ _ _
  refine wpAny_pure ?_
  dsimp only
  refine wpAny_bind ?_
  unfold seqSize
  refine wpAny_bind (wpAny_load hx (wpAny_pure ?_))
  exact wpAny_bind (wpAny_mkInt (wpAny_pure h))
theorem check_len {Q : Unit → Shared → Prop} (h : Q () s) : wpAny (model P0 w) A (checkBoundCall "list.__len__" ⟨[.ref x], []⟩) Q E s := by
  have e : checkBoundCall "list.__len__" ⟨[.ref x], []⟩ = pure () := by kernel_rfl
  rw [e]; exact wpAny_pure h
theorem call_len_K (F : Fr h₀ L s.heap m) (N : News h₀ L s.heap news) (hq : (q, boundO "method-wrapper" "list.__len__" x) ∈ news) (hx : (x, accO dx items n) ∈ news)
    (h : Q (.int items.size s.toks) { s with toks := s.toks + 1 }) : wpAny (model P0 w) A (call (.ref q) []) Q E s :=
  call_bound (N _ hq).1 (.inr rfl) (fun q => check_len q) (by decide +kernel) PySem.F.entry_list_len (len_op (N _ hx).1 ⟨_, rfl, h⟩)
end
section
variable {w : World} {s : Shared} {A : Around} {E : Value → Shared → Prop} {h₀ : Heap} {L : Addr} {m : Str → Option Value} {news : List (Addr × Obj)} {x dx so : Addr} {items : Array Value} {n : Nat} {Q : Value × List Value → Shared → Prop} {pl : Sem Bool} {cd : ClassData}
theorem super_len_K (B : Bs w h₀) (F : Fr h₀ L s.heap m) (N : News h₀ L s.heap news) (hso : (so, ks_superObj 200 x 200) ∈ news) (hx : (x, accO dx items n) ∈ news)
    (hcl : clsIn (Mine.hd.heap_39 w.params) 200 = some cd) (hx200 : x ≠ 200) (ho : nsIn (Mine.hd.heap_39 w.params) cStatics "thirdparty.any" = some none)
    (hf : ks_superIn (Mine.hd.heap_39 w.params) 200 200 "__len__" = some (some (.builtin "list.__len__"))) (hA : Le A.in1 (At 600 4000))
    (h : ∀ q h' tk, Fr h₀ L h' m → News h₀ L h' ((q, boundO "method-wrapper" "list.__len__" x) :: news) → (∀ p ∈ news, p.1 ≠ q) → Q (.ref q, []) { s with heap := h', toks := tk }) :
    wpAny (model P0 w) A (getMethod (.ref so) "__len__" pl) Q E s :=
  super_K (T := "wrapper_descriptor") (gid := "wrapper_descriptor.__get__") F B.X N hso hcl hx200 ho hf (by kernel_rfl) (by rw [typeLookup_type, builtinLookup_eq_fast]; kernel_rfl) (by decide)
    (fun hq => at_le hA (bind_len (s := ⟨s.heap, s.gens, s.drawn, _, s.os⟩) (B.XX.keeps F.keep) (N _ hx).1 hq)) h
theorem super_pop_K (B : Bs w h₀) (F : Fr h₀ L s.heap m) (N : News h₀ L s.heap news) (hso : (so, ks_superObj 200 x 200) ∈ news) (hx : (x, accO dx items n) ∈ news)
    (hcl : clsIn (Mine.hd.heap_39 w.params) 200 = some cd) (hx200 : x ≠ 200) (ho : nsIn (Mine.hd.heap_39 w.params) cStatics "thirdparty.any" = some none)
    (hf : ks_superIn (Mine.hd.heap_39 w.params) 200 200 "pop" = some (some (.builtin "list.pop"))) (hA : Le A.in1 (At 600 4000))
    (h : ∀ q h' tk, Fr h₀ L h' m → News h₀ L h' ((q, boundO "builtin_function_or_method" "list.pop" x) :: news) → (∀ p ∈ news, p.1 ≠ q) → Q (.ref q, []) { s with heap := h', toks := tk }) :
    wpAny (model P0 w) A (getMethod (.ref so) "pop" pl) Q E s :=
  super_K (T := "method_descriptor") (gid := "method_descriptor.__get__") F B.X N hso hcl hx200 ho hf (by kernel_rfl) (by rw [typeLookup_type, builtinLookup_eq_fast]; kernel_rfl) (by decide)
    (fun hq => at_le hA (bind_pop (s := ⟨s.heap, s.gens, s.drawn, _, s.os⟩) (B.XX.keeps F.keep) (N _ hx).1 hq)) h
theorem super_init_K (B : Bs w h₀) (F : Fr h₀ L s.heap m) (N : News h₀ L s.heap news) (hso : (so, ks_superObj 200 x 200) ∈ news) (hx : (x, accO dx items n) ∈ news)
    (hcl : clsIn (Mine.hd.heap_39 w.params) 200 = some cd) (hx200 : x ≠ 200) (ho : nsIn (Mine.hd.heap_39 w.params) cStatics "thirdparty.any" = some none)
    (hf : ks_superIn (Mine.hd.heap_39 w.params) 200 200 "__init__" = some (some (.builtin "list.__init__"))) (hA : Le A.in1 (At 600 4000))
    (h : ∀ q h' tk, Fr h₀ L h' m → News h₀ L h' ((q, boundO "method-wrapper" "list.__init__" x) :: news) → (∀ p ∈ news, p.1 ≠ q) → Q (.ref q, []) { s with heap := h', toks := tk }) :
    wpAny (model P0 w) A (getMethod (.ref so) "__init__" pl) Q E s :=
  super_K (T := "wrapper_descriptor") (gid := "wrapper_descriptor.__get__") F B.X N hso hcl hx200 ho hf (by kernel_rfl) (by rw [typeLookup_type, builtinLookup_eq_fast]; kernel_rfl) (by decide)
    (fun hq => at_le hA (bind_init (s := ⟨s.heap, s.gens, s.drawn, _, s.os⟩) (B.XX.keeps F.keep) (N _ hx).1 hq)) h
end
end
section
theorem kw_B5_1 : True := by
  k_with_none
  k_with "execs cons" => ((with_reducible refine seq_cons fun zQ1 ztk zhQ1 => ?_); try dsimp only)
  trivial
theorem fillB5 (w : World) (h : Heap) (X : (Mine.hd.heap_39 w.params).In h) (e : PySem.Challenge.rw_wu0089_01.foot = PySem.Challenge.rw_wu0089_01.foot) : True := by
  revert X e; k_fill; intro _ _; trivial

theorem kw_B5_2 : True := by
  k_with "k_inst" => (refine' acc_inst ?q2a ?q2b ?q2c; (case q2a => k_asm); (case q2b => k_mem); (case q2c => k_mem))
  k_with "getMethod ref" => (k_here; (with_reducible show wpAny _ _ (getMethod (Value.ref _) (PySem.Str.ofString "append") _) _ _ _); k_dflt (refine' method_bi ?q6a ?q6b ?q6c ?q6d ?q6h ?q6i ?q6e ?q6f ?q6g ?_; (case q6a => k_asm); (case q6b => k_asm); (case q6c => k_inst); (case q6d => k_is); (case q6h => kernel_rfl); (case q6i => k_is); (case q6e => k_is); (case q6f => kernel_rfl); (case q6g => first | assumption | k_get); k_whole))
  k_with "call builtin:list.append" => (k_here; (with_reducible show wpAny _ _ (call (Value.builtin _) [Value.ref _, _]) _ _ _); k_dflt (refine' append_acc ?q4a ?q4b ?q4c ?q4d ?q4e ?q4f ?_ ?q4g; (case q4a => k_asm); (case q4b => k_asm); (case q4c => k_asm); (case q4e => k_is); (case q4f => k_upd); (case q4d => k_mem); (case q4g => assumption); k_whole); intro zh' zF' zN'; (try k_sweep))
  k_with "ktr_enter" => (refine' enter_fn ?q7a ?q7d ?q7e ?q7f ?q7g ?q7h ?q7i ?_ ?q7j ?q7k ?q7b ?q7c; (case q7g => assumption); (case q7a => assumption); (case q7e => k_is); (case q7f => k_is); (case q7d => decide); (case q7h => first | exact BindsTo.of_eq rfl | exact binds_K (Gd.here (by assumption)).X rfl (by k_is) rfl rfl rfl); (case q7j => decide); (case q7i => exact locs rfl); (case q7k => exact rfl); (case q7b => exact rfl); (case q7c => exact rfl); k_whole; rintro zg' zL' zh' zp' zl' zmean' zmg' zmb' zT' zX' zGN zF' zN' zl1 zK1 zhL'; (try dsimp only); (try k_fold))
  k_with "ks_enter" => (refine' enter_at ?q8a ?q8d ?q8e ?q8f ?q8g ?q8h ?q8i ?_ ?q8j ?q8k ?q8b ?q8c; (case q8g => assumption); (case q8a => assumption); (case q8e => k_is); (case q8f => k_is); (case q8d => decide); (case q8h => first | exact BindsTo.of_eq rfl | exact binds_K (Gd.here (by assumption)).X rfl (by k_is) rfl rfl rfl); (case q8j => decide); (case q8i => exact locs rfl); (case q8k => exact rfl); (case q8b => exact rfl); (case q8c => exact rfl); k_whole; rintro zg' zL' zh' zp' zl' zmean' zmg' zmb' zT' zX' zGN zF' zN' zl1 zK1 zhL'; (try dsimp only))
  k_with "callWith ref" => (k_here; (with_reducible show wpAny _ _ (callWith _ (Value.ref _) [] (backTo _ (starEach [] _)) []) _ _ _); k_dflt (refine' callWith_B0 ?q9a ?q9b ?q9c ?_; (case q9a => k_asm); (case q9b => k_mem); (case q9c => first | exact .inl rfl | exact .inr rfl)))
  k_with "getAttr ref" => (k_here; (with_reducible show wpAny _ _ (getAttr (Value.ref _) _ _) _ _ _); k_dflt (refine' get_ownA ?q10d ?q10e ?q10f ?q10l ?q10m ?q10n ?q10g ?q10h ?q10i ?q10j ?q10k ?_; (case q10d => k_asm); (case q10e => k_asm); (case q10f => (refine' acc_inst ?q10a ?q10b ?q10c; (case q10a => k_asm); (case q10b => k_mem); (case q10c => k_mem))); (case q10l => k_is); (case q10m => k_is); (case q10n => k_is); (case q10g => k_is); (case q10h => k_is); (case q10i => k_is); (case q10j => first | assumption | k_get); (case q10k => k_handed); k_whole))
  trivial
noncomputable def Stop (P : Prop) : Prop := P
theorem stop {P : Prop} (h : Stop P) : P := h

section
variable {prog : Program} {w : World} {A : Around} {E : Value → Shared → Prop} {s : Shared} {K : Frag} {h₀ : Heap} {L : Addr} {m : Str → Option Value} {x dx C : Addr} {ox : Obj}
/-- a def of the class met on an instance of a class below a built-in one -/
theorem method_fnA {name : Str} {f : Addr} {pl : Sem Bool} {Q : Value × List Value → Shared → Prop} {es : List DictEntry} {de : Nat} (F : Fr h₀ L s.heap m) (X₀ : K.In h₀) (I : InstAt s.heap x ox C (some (dictOf es de))) {ga : String} (hga : findIn K (.ref C) "__getattribute__" = some (some (.builtin ga))) (hcan : (Manifest.canonical ga != "object.__getattribute__") = false) (hk : findIn K (.ref C) "__getattr__" = some none)
    (hf : findIn K (.ref C) name = some (some (.ref f))) (ht : typeIn K (.ref f) = some (.type "function")) (hl : getL name es = some none) (h : Q (.ref f, [.ref x]) s) :
    wpAny (model prog w) A (getMethod (.ref x) name pl) Q E s := by
  have X := X₀.keeps F.keep
  unfold getMethod specialOf
  refine wpAny_bind (wpAny_bind (I.type.here ((looks_findIn X hga).here ?_)))
  dsimp only
  rw [hcan, if_neg (by decide)]
  refine wpAny_bind (wpAny_bind (I.type.here ((looks_findIn X hk).here ?_)))
  refine wpAny_bind (wpAny_bind (I.type.here ((looks_findIn X hf).here (wpAny_bind ((looks_typeIn X ht).here ?_)))))
  rw [if_neg (by decide +kernel)]
  refine wpAny_bind (wpAny_loadPart I.at_ ?_)
  have hd := I.dict
  cases e : ox.dict with
  | none => rw [e] at hd; exact hd.elim
  | some d =>
    rw [e] at hd
    dsimp only at hd ⊢
    refine wpAny_bind ?_
    unfold nsGet
    refine wpAny_bind (wpAny_loadPart hd ?_)
    rw [nsLook_of (show lookIn name (dictOf es de) = some none from hl)]
    exact wpAny_pure (wpAny_bind (wpAny_rule (wpAny_pure h)))
end
section
variable {w : World} {s : Shared} {x dx : Addr} {items : Array Value} {n de : Nat} {es : List DictEntry} {Q E : Value → Shared → Prop}
theorem kw_B5_3 : True := by
  k_with "getMethod ref" => (k_here; (with_reducible show wpAny _ _ (getMethod (Value.ref _) (PySem.Str.ofString "__len__") _) _ _ _); k_dflt (refine' super_len_K ?q11a ?q11c ?q11d ?q11e ?q11f ?q11g ?q11h ?q11i ?q11j ?q11b ?_; (case q11a => exact (Gnd.bs (by assumption))); (case q11c => k_asm); (case q11d => k_asm); (case q11e => k_mem); (case q11f => k_mem); (case q11g => k_is); (case q11h => assumption); (case q11i => k_is); (case q11j => ks_is); (case q11b => exact le_at rfl rfl rfl); k_whole); intro zq' zh' ztk' zF' zN' zl2; (replace zl2 := allNe_of zl2); (simp only [AllNe, and_true] at zl2))
  k_with "call ref" => (k_here; (with_reducible show wpAny _ _ (call (Value.ref _) []) _ _ _); k_dflt (refine' call_len_K ?q12a ?q12b ?q12c ?q12d ?_; (case q12a => k_asm); (case q12b => k_asm); (case q12c => k_mem); (case q12d => k_mem); k_whole))
  trivial
theorem part_count_spec (G : Gd w s.heap [x, dx]) (hx : s.heap.get? x = some (accO dx items n)) (hd : s.heap.get? dx = some (dictOf es de)) (hne : @Ne Nat x dx) (h200 : x ≠ 200)
    (hQ : ∀ h' t tk, Keeps s.heap h' → Q (.int items.size t) { s with heap := h', toks := tk }) :
    wpAny (model P0 w) (At 550 3500) (call (.ref 197) [.ref x]) Q E s := by
  have hn := mem2 hx hd
  refine wpAny_call ?_
  k_dflt ks_enter
  k_steps
  rename News _ _ _ _ => N
  exact hQ _ _ _ (gnd_keeps (‹Gnd w s.heap _ _›) (‹Fr _ _ _ _›).keep hn (fun p hp => (N p (.tail _ (.tail _ hp))).1))
end
theorem kw_B5_4 : True := by
  k_with_none
  k_with "execs cons" => ((with_reducible refine seq_cons fun zQ1 ztk zhQ1 => ?_); try dsimp only)
  k_with "k_inst" => (refine' acc_inst ?q2a ?q2b ?q2c; (case q2a => k_asm); (case q2b => k_mem); (case q2c => k_mem))
  k_with "getMethod ref" => (k_here; (with_reducible show wpAny _ _ (getMethod (Value.ref _) (PySem.Str.ofString "append") _) _ _ _); k_dflt (refine' method_bi ?q6a ?q6b ?q6c ?q6d ?q6h ?q6i ?q6e ?q6f ?q6g ?_; (case q6a => k_asm); (case q6b => k_asm); (case q6c => k_inst); (case q6d => k_is); (case q6h => kernel_rfl); (case q6i => k_is); (case q6e => k_is); (case q6f => kernel_rfl); (case q6g => first | assumption | k_get); k_whole))
  k_with "call builtin:list.append" => (k_here; (with_reducible show wpAny _ _ (call (Value.builtin _) [Value.ref _, _]) _ _ _); k_dflt (refine' append_acc ?q4a ?q4b ?q4c ?q4d ?q4e ?q4f ?_ ?q4g; (case q4a => k_asm); (case q4b => k_asm); (case q4c => k_asm); (case q4e => k_is); (case q4f => k_upd); (case q4d => k_mem); (case q4g => assumption); k_whole); intro zh' zF' zN'; (try k_sweep))
  k_with "ktr_enter" => (refine' enter_fn ?q7a ?q7d ?q7e ?q7f ?q7g ?q7h ?q7i ?_ ?q7j ?q7k ?q7b ?q7c; (case q7g => assumption); (case q7a => assumption); (case q7e => k_is); (case q7f => k_is); (case q7d => decide); (case q7h => first | exact BindsTo.of_eq rfl | exact binds_K (Gd.here (by assumption)).X rfl (by k_is) rfl rfl rfl); (case q7j => decide); (case q7i => exact locs rfl); (case q7k => exact rfl); (case q7b => exact rfl); (case q7c => exact rfl); k_whole; rintro zg' zL' zh' zp' zl' zmean' zmg' zmb' zT' zX' zGN zF' zN' zl1 zK1 zhL'; (try dsimp only); (try k_fold))
  k_with "ks_enter" => (refine' enter_at ?q8a ?q8d ?q8e ?q8f ?q8g ?q8h ?q8i ?_ ?q8j ?q8k ?q8b ?q8c; (case q8g => assumption); (case q8a => assumption); (case q8e => k_is); (case q8f => k_is); (case q8d => decide); (case q8h => first | exact BindsTo.of_eq rfl | exact binds_K (Gd.here (by assumption)).X rfl (by k_is) rfl rfl rfl); (case q8j => decide); (case q8i => exact locs rfl); (case q8k => exact rfl); (case q8b => exact rfl); (case q8c => exact rfl); k_whole; rintro zg' zL' zh' zp' zl' zmean' zmg' zmb' zT' zX' zGN zF' zN' zl1 zK1 zhL'; (try dsimp only))
  k_with "callWith ref" => (k_here; (with_reducible show wpAny _ _ (callWith _ (Value.ref _) [] (backTo _ (starEach [] _)) []) _ _ _); k_dflt (refine' callWith_B0 ?q9a ?q9b ?q9c ?_; (case q9a => k_asm); (case q9b => k_mem); (case q9c => first | exact .inl rfl | exact .inr rfl)))
  k_with "getAttr ref" => (k_here; (with_reducible show wpAny _ _ (getAttr (Value.ref _) _ _) _ _ _); k_dflt (refine' get_ownA ?q10d ?q10e ?q10f ?q10l ?q10m ?q10n ?q10g ?q10h ?q10i ?q10j ?q10k ?_; (case q10d => k_asm); (case q10e => k_asm); (case q10f => (refine' acc_inst ?q10a ?q10b ?q10c; (case q10a => k_asm); (case q10b => k_mem); (case q10c => k_mem))); (case q10l => k_is); (case q10m => k_is); (case q10n => k_is); (case q10g => k_is); (case q10h => k_is); (case q10i => k_is); (case q10j => first | assumption | k_get); (case q10k => k_handed); k_whole))
  trivial
section
variable {w : World} {s : Shared} {A : Around} {E : Value → Shared → Prop} {h₀ : Heap} {L : Addr} {m : Str → Option Value} {news : List (Addr × Obj)} {x dx : Addr} {items : Array Value} {n de : Nat} {es : List DictEntry} {Q : Value → Shared → Prop}
theorem part_count_K (B : Bs w h₀) (F : Fr h₀ L s.heap m) (N : News h₀ L s.heap news) (hx : (x, accO dx items n) ∈ news) (hd : (dx, dictOf es de) ∈ news) (hne : @Ne Nat x dx) (h200 : x ≠ 200) (hA : Le A (At 550 3500))
    (h : ∀ h' t tk, Fr h₀ L h' m → News h₀ L h' news → Q (.int items.size t) { s with heap := h', toks := tk }) : wpAny (model P0 w) A (call (.ref 197) [.ref x]) Q E s :=
  at_le hA (part_count_spec (Gd.of B F.keep (by intro a ha; simp only [List.mem_cons, List.not_mem_nil, or_false] at ha; rcases ha with rfl | rfl <;> first | exact (N _ hx).2.2 | exact (N _ hd).2.2)) (N _ hx).1 (N _ hd).1 hne h200
    fun h' t tk k => h h' t tk (fr_keeps F k) (news_keeps N k))
end
section
variable {w : World} {s : Shared} {x dx : Addr} {its : Array Value} {n de : Nat} {es : List DictEntry} {v : Value} {Q E : Value → Shared → Prop}
theorem kw_B5_5 : True := by
  k_with "getMethod ref" => (k_here; (with_reducible show wpAny _ _ (getMethod (Value.ref _) _ _) _ _ _); k_dflt (refine' method_fnA ?q13a ?q13b ?q13c ?q13d ?q13h ?q13i ?q13e ?q13f ?q13g ?_; (case q13a => k_asm); (case q13b => k_asm); (case q13c => k_inst); (case q13d => k_is); (case q13h => kernel_rfl); (case q13i => k_is); (case q13e => k_is); (case q13f => k_is); (case q13g => first | assumption | k_get); k_whole))
  k_with "getMethod ref" => (k_here; (with_reducible show wpAny _ _ (getMethod (Value.ref _) (PySem.Str.ofString "pop") _) _ _ _); k_dflt (refine' super_pop_K ?q14a ?q14c ?q14d ?q14e ?q14f ?q14g ?q14h ?q14i ?q14j ?q14b ?_; (case q14a => exact (Gnd.bs (by assumption))); (case q14c => k_asm); (case q14d => k_asm); (case q14e => k_mem); (case q14f => k_mem); (case q14g => k_is); (case q14h => assumption); (case q14i => k_is); (case q14j => ks_is); (case q14b => exact le_at rfl rfl rfl); k_whole); intro zq' zh' ztk' zF' zN' zl2; (replace zl2 := allNe_of zl2); (simp only [AllNe, and_true] at zl2))
  k_with "call ref" => (k_here; (with_reducible show wpAny _ _ (call (Value.ref _) []) _ _ _); k_dflt (refine' call_pop_K ?q15a ?q15d ?q15e ?q15f ?q15g ?q15h ?q15i ?q15j ?q15k ?q15b ?q15c ?_; (case q15a => k_asm); (case q15d => k_asm); (case q15e => k_asm); (case q15f => k_mem); (case q15h => k_upd); (case q15g => k_mem); (case q15i => assumption); (case q15j => k_is); (case q15k => k_is); (case q15b => k_is); (case q15c => rfl); k_whole); intro zh' zF' zN'; (try k_sweep))
  k_with "call ref" => (k_here; (with_reducible show wpAny _ _ (call (Value.ref 197) _) _ _ _); k_dflt (refine' part_count_K ?q16a ?q16b ?q16c ?q16d ?q16e ?q16f ?q16g ?q16h ?_; (case q16a => exact (Gnd.bs (by assumption))); (case q16b => k_asm); (case q16c => k_asm); (case q16d => k_mem); (case q16e => k_mem); (case q16f => assumption); (case q16g => assumption); (case q16h => exact le_at rfl rfl rfl); k_whole); intro zh' zt' ztk' zF' zN'; (try k_sweep))
  k_with "wpAt" => ((with_reducible show _root_.PySem.wpAt _ _ _ (execs (_ :: _) _) _ _ _); refine ks_wpAt_execs_cons ?_)
  k_with "wpAt" => ((with_reducible show _root_.PySem.wpAt _ _ _ (eval _ _) _ _ _); refine stop ?_)
  trivial
theorem pop_spec (G : Gd w s.heap [x, dx]) (hx : s.heap.get? x = some (accO dx (its.push v) n)) (hd : s.heap.get? dx = some (dictOf es de)) (hne : @Ne Nat x dx) (h200 : x ≠ 200) (hsz : (its.push v).size ≤ sizeLine) (hes : getL "part_count" es = some none)
    (hQ : ∀ h' tk, KeepsBut [x] s.heap h' → h'.get? x = some (accO dx its (n + 1)) → Q v { s with heap := h', toks := tk }) :
    wpAny (model P0 w) (At 540 3400) (call (.ref 160) [.ref x]) Q E s := by
  have hn := mem2 hx hd
  refine wpAny_call ?_
  k_dflt ks_enter
  k_steps
  · exact absurd (‹((its.push v).size : Int) = 0›) (by simp; omega)
  · unfold Stop
    refine ks_wpAt_MethodCall ?_
    k_steps
    rename News _ _ _ _ => N
    exact hQ _ _ (gnd_but (‹Gnd w s.heap _ _›) (‹Fr _ _ _ _›).keep (by
      refine mem_all2 ?_ ?_
      · exact .inl (.head _)
      · exact .inr ⟨hd, (N _ (by k_mem)).1⟩)) (N (x, _) (by k_mem)).1
end
theorem kw_B5_6 : True := by
  k_with_none
  k_with "execs cons" => ((with_reducible refine seq_cons fun zQ1 ztk zhQ1 => ?_); try dsimp only)
  k_with "k_inst" => (refine' acc_inst ?q2a ?q2b ?q2c; (case q2a => k_asm); (case q2b => k_mem); (case q2c => k_mem))
  k_with "getMethod ref" => (k_here; (with_reducible show wpAny _ _ (getMethod (Value.ref _) (PySem.Str.ofString "append") _) _ _ _); k_dflt (refine' method_bi ?q6a ?q6b ?q6c ?q6d ?q6h ?q6i ?q6e ?q6f ?q6g ?_; (case q6a => k_asm); (case q6b => k_asm); (case q6c => k_inst); (case q6d => k_is); (case q6h => kernel_rfl); (case q6i => k_is); (case q6e => k_is); (case q6f => kernel_rfl); (case q6g => first | assumption | k_get); k_whole))
  k_with "call builtin:list.append" => (k_here; (with_reducible show wpAny _ _ (call (Value.builtin _) [Value.ref _, _]) _ _ _); k_dflt (refine' append_acc ?q4a ?q4b ?q4c ?q4d ?q4e ?q4f ?_ ?q4g; (case q4a => k_asm); (case q4b => k_asm); (case q4c => k_asm); (case q4e => k_is); (case q4f => k_upd); (case q4d => k_mem); (case q4g => assumption); k_whole); intro zh' zF' zN'; (try k_sweep))
  k_with "ktr_enter" => (refine' enter_fn ?q7a ?q7d ?q7e ?q7f ?q7g ?q7h ?q7i ?_ ?q7j ?q7k ?q7b ?q7c; (case q7g => assumption); (case q7a => assumption); (case q7e => k_is); (case q7f => k_is); (case q7d => decide); (case q7h => first | exact BindsTo.of_eq rfl | exact binds_K (Gd.here (by assumption)).X rfl (by k_is) rfl rfl rfl); (case q7j => decide); (case q7i => exact locs rfl); (case q7k => exact rfl); (case q7b => exact rfl); (case q7c => exact rfl); k_whole; rintro zg' zL' zh' zp' zl' zmean' zmg' zmb' zT' zX' zGN zF' zN' zl1 zK1 zhL'; (try dsimp only); (try k_fold))
  k_with "ks_enter" => (refine' enter_at ?q8a ?q8d ?q8e ?q8f ?q8g ?q8h ?q8i ?_ ?q8j ?q8k ?q8b ?q8c; (case q8g => assumption); (case q8a => assumption); (case q8e => k_is); (case q8f => k_is); (case q8d => decide); (case q8h => first | exact BindsTo.of_eq rfl | exact binds_K (Gd.here (by assumption)).X rfl (by k_is) rfl rfl rfl); (case q8j => decide); (case q8i => exact locs rfl); (case q8k => exact rfl); (case q8b => exact rfl); (case q8c => exact rfl); k_whole; rintro zg' zL' zh' zp' zl' zmean' zmg' zmb' zT' zX' zGN zF' zN' zl1 zK1 zhL'; (try dsimp only))
  k_with "callWith ref" => (k_here; (with_reducible show wpAny _ _ (callWith _ (Value.ref _) [] (backTo _ (starEach [] _)) []) _ _ _); k_dflt (refine' callWith_B0 ?q9a ?q9b ?q9c ?_; (case q9a => k_asm); (case q9b => k_mem); (case q9c => first | exact .inl rfl | exact .inr rfl)))
  k_with "getAttr ref" => (k_here; (with_reducible show wpAny _ _ (getAttr (Value.ref _) _ _) _ _ _); k_dflt (refine' get_ownA ?q10d ?q10e ?q10f ?q10l ?q10m ?q10n ?q10g ?q10h ?q10i ?q10j ?q10k ?_; (case q10d => k_asm); (case q10e => k_asm); (case q10f => (refine' acc_inst ?q10a ?q10b ?q10c; (case q10a => k_asm); (case q10b => k_mem); (case q10c => k_mem))); (case q10l => k_is); (case q10m => k_is); (case q10n => k_is); (case q10g => k_is); (case q10h => k_is); (case q10i => k_is); (case q10j => first | assumption | k_get); (case q10k => k_handed); k_whole))
  trivial
section
variable {w : World} {s : Shared} {x dx : Addr} {n de : Nat} {es : List DictEntry} {Q E : Value → Shared → Prop}
theorem kw_B5_7 : True := by
  k_with "getMethod ref" => (k_here; (with_reducible show wpAny _ _ (getMethod (Value.ref _) _ _) _ _ _); k_dflt (refine' method_fnA ?q13a ?q13b ?q13c ?q13d ?q13h ?q13i ?q13e ?q13f ?q13g ?_; (case q13a => k_asm); (case q13b => k_asm); (case q13c => k_inst); (case q13d => k_is); (case q13h => kernel_rfl); (case q13i => k_is); (case q13e => k_is); (case q13f => k_is); (case q13g => first | assumption | k_get); k_whole))
  k_with "call ref" => (k_here; (with_reducible show wpAny _ _ (call (Value.ref 197) _) _ _ _); k_dflt (refine' part_count_K ?q16a ?q16b ?q16c ?q16d ?q16e ?q16f ?q16g ?q16h ?_; (case q16a => exact (Gnd.bs (by assumption))); (case q16b => k_asm); (case q16c => k_asm); (case q16d => k_mem); (case q16e => k_mem); (case q16f => assumption); (case q16g => assumption); (case q16h => exact le_at rfl rfl rfl); k_whole); intro zh' zt' ztk' zF' zN'; (try k_sweep))
  k_with "wpAt" => ((with_reducible show _root_.PySem.wpAt _ _ _ (execs (_ :: _) _) _ _ _); refine ks_wpAt_execs_cons ?_)
  k_with "wpAt" => ((with_reducible show _root_.PySem.wpAt _ _ _ (eval _ _) _ _ _); refine stop ?_)
  trivial
theorem pop_none_spec (G : Gd w s.heap [x, dx]) (hx : s.heap.get? x = some (accO dx #[] n)) (hd : s.heap.get? dx = some (dictOf es de)) (hne : @Ne Nat x dx) (h200 : x ≠ 200) (hes : getL "part_count" es = some none)
    (hQ : ∀ h' t t1 t2 tk, Keeps s.heap h' → s.heap.get? t = none → h'.get? t = some (tupO [.str "" t1, .str "" t2]) → Q (.ref t) { s with heap := h', toks := tk }) :
    wpAny (model P0 w) (At 540 3400) (call (.ref 160) [.ref x]) Q E s := by
  have hn := mem2 hx hd
  refine wpAny_call ?_
  k_dflt ks_enter
  k_steps
  all_goals
    rename News _ _ _ _ => N
    have z := N (_, tupO _) (.head _)
    rename Gnd w s.heap _ _ => GN
    refine hQ _ _ _ _ _ (gnd_keeps GN (‹Fr _ _ _ _›).keep hn (fun p hp => (N p (.tail _ hp)).1)) (GN.fresh _ z.2.2 ?_) z.1
    simp only [List.map_cons, List.map_nil, List.mem_cons, List.not_mem_nil, or_false]; rintro (q | q) <;> exact absurd q (by k_ne)
end
end
section
noncomputable def SeqAt (h : Heap) (l : Addr) (items : Array Value) : Prop := ∃ o n, h.get? l = some o ∧ o.data = .seq items n
theorem SeqAt.at {h h' : Heap} {l : Addr} {items : Array Value} (x : SeqAt h l items) (k : ∀ o, h.get? l = some o → h'.get? l = some o) : SeqAt h' l items := let ⟨o, n, e, d⟩ := x; ⟨o, n, k _ e, d⟩
section
variable {prog : Program} {w : World} {A : Around} {E : Value → Shared → Prop} {s : Shared}
theorem next_seq_item {it l : Addr} {i : Nat} {items : Array Value} {x : Value} {Q : Option Value → Shared → Prop} (hit : s.heap.IsListIter it l i) (hl : SeqAt s.heap l items) (hx : items[i]? = some x)
    (hQ : ∀ h', h'.IsListIter it l (i + 1) → Heap.SameBut it s.heap h' → Q (some x) { s with heap := h' }) : wpAny (model prog w) A (pyNext (.ref it)) Q E s := by
  obtain ⟨o, ho, hc, hd⟩ := id hit
  obtain ⟨ol, nl, hol, hdl⟩ := hl
  unfold pyNext
  refine wpAny_bind (wpAny_attempt (wpAny_callSpecial?_slot (name := Str.ofString "__next__") hit.typeIs slot_listiter_next (wpAny_call_entry slot_listiter_next hit.typeIs entry_listiter_next ?_ (args_listiter_next _))))
  show wpAny _ _ (field (.ref it) 0 >>= _) _ _ s
  refine wpAny_bind (wpAny_field ho hd (x := .ref l) rfl ?_)
  show wpAny _ _ (if (Value.ref l == Value.none) = true then _ else _) _ _ s
  rw [if_neg (show ¬ ((Value.ref l == Value.none) = true) from Bool.false_ne_true)]
  show wpAny _ _ (field (.ref it) 1 >>= _) _ _ s
  refine wpAny_bind (wpAny_field ho hd (x := .int i 0) rfl ?_)
  show wpAny _ _ (seqItems? (.ref l) >>= _) _ _ s
  refine wpAny_bind (wpAny_seqItems hol hdl ?_)
  simp only [Int.toNat_natCast, hx]
  refine wpAny_bind (wpAny_setField ho hd (by simp) (wpAny_pure ⟨x, rfl, wpAny_pure (hQ _ ?_ (Heap.SameBut.update ..))⟩))
  exact ⟨_, Heap.get?_update_self _ ho (Obj.isFreed_of_fields (Obj.data_mapFields hd _)), (Obj.cls_mapFields ..).trans hc, by
    rw [Obj.data_mapFields hd]; simp [rawInt]⟩
theorem next_seq_end {it l : Addr} {i : Nat} {items : Array Value} {Q : Option Value → Shared → Prop} (hh : A.handled = none) (hit : s.heap.IsListIter it l i) (hl : SeqAt s.heap l items) (hx : items[i]? = none)
    (hQ : ∀ h', Heap.ExtBut it s.heap h' → Q none { s with heap := h' }) : wpAny (model prog w) A (pyNext (.ref it)) Q E s := by
  obtain ⟨o, ho, hc, hd⟩ := id hit
  obtain ⟨ol, nl, hol, hdl⟩ := hl
  unfold pyNext
  refine wpAny_bind (wpAny_attempt (wpAny_callSpecial?_slot (name := Str.ofString "__next__") hit.typeIs slot_listiter_next (wpAny_call_entry slot_listiter_next hit.typeIs entry_listiter_next ?_ (args_listiter_next _))))
  show wpAny _ _ (field (.ref it) 0 >>= _) _ _ s
  refine wpAny_bind (wpAny_field ho hd (x := .ref l) rfl ?_)
  show wpAny _ _ (if (Value.ref l == Value.none) = true then _ else _) _ _ s
  rw [if_neg (show ¬ ((Value.ref l == Value.none) = true) from Bool.false_ne_true)]
  show wpAny _ _ (field (.ref it) 1 >>= _) _ _ s
  refine wpAny_bind (wpAny_field ho hd (x := .int i 0) rfl ?_)
  show wpAny _ _ (seqItems? (.ref l) >>= _) _ _ s
  refine wpAny_bind (wpAny_seqItems hol hdl ?_)
  simp only [Int.toNat_natCast, hx]
  refine wpAny_bind (wpAny_rule (wpAny_bind (wpAny_setField ho hd (by simp) ?_)))
  show wpAny _ _ (newExc (.type "StopIteration") [] >>= _) _ _ _
  refine wpAny_bind ?_
  simp only [newExc, newTuple]
  refine wpAny_bind (wpAny_newObj_type ?_ (by size_fits))
  refine wpAny_bind (m := firstArgMember _ _) (wpAny_of_eq (a := Value.none) (by first | rfl | (simp only [firstArgMember]; rfl)) ?_)
  refine wpAny_newObj_type ?_ (by size_fits)
  simp only [raiseNew]
  refine wpAny_bind (wpAny_handled ?_)
  rw [show A.in1.handled = none from hh]
  refine wpAny_bind (wpAny_pure (wpAny_throw ?_))
  refine wpAny_bind (wpAny_isInstance (T := "StopIteration") (b := true) ⟨_, Heap.get?_push_size _ rfl, rfl⟩ isSubtype_stop ?_)
  exact wpAny_pure (hQ _ (((Heap.SameBut.update ..).extBut.push _).push _))
end
theorem walks_acc {prog : Program} {w : World} {A : Around} (hh : A.handled = none) (I ax : Addr) (hne : ax ≠ I) (items : Array Value) (Ts : Nat → Addr) (vals : Nat → Array Value)
    (hit : ∀ j, j < items.size → items[j]? = some (.ref (Ts j))) (hTI : ∀ j, j < items.size → Ts j ≠ I) :
    WalksU prog w A I (I :: ax :: (List.range items.size).map Ts) [I] items.size (fun j v => j < items.size ∧ v = vals j)
      (fun j h => h.IsListIter I ax j ∧ SeqAt h ax items ∧ ∀ k, k < items.size → h.IsTuple (Ts k) (vals k))
      (fun j T h => (j < items.size ∧ T = Ts j) ∧ h.IsListIter I ax (j + 1) ∧ SeqAt h ax items ∧ ∀ k, k < items.size → h.IsTuple (Ts k) (vals k)) where
  sub := fun b hb => by simp at hb; simp [hb]
  frame := fun _ _ _ st hk => ⟨st.1.at fun o e => hk I (by simp) o e, st.2.1.at fun o e => hk ax (by simp) o e,
    fun k hk' => (st.2.2 k hk').at fun o e => hk (Ts k) (List.mem_cons_of_mem _ (List.mem_cons_of_mem _ (List.mem_map.mpr ⟨k, List.mem_range.mpr hk', rfl⟩))) o e⟩
  item := fun i s Q E hi st hQ => by
    refine next_seq_item st.1 st.2.1 (x := .ref (Ts i)) (hit i hi) fun h' hit' hs' => ?_
    have tup : ∀ k, k < items.size → h'.IsTuple (Ts k) (vals k) := fun k hk' => (st.2.2 k hk').extBut hs'.extBut (hTI k hk')
    exact hQ (Ts i) (vals i) h' s.toks ⟨hi, rfl⟩ (tup i hi) ⟨⟨hi, rfl⟩, hit', st.2.1.at fun o e => hs'.extBut _ o hne e, tup⟩ fun b o hb e => hs'.extBut b o (fun h => hb (by simp [h])) e
  go := fun _ _ _ _ _ s Q _ hm hQ => wpAny_letOwnedTupleGo_listiter hm.2.1 (hQ s.heap hm.2 fun _ _ _ e => e)
  apart := fun j T _ hm hmem => by
    rcases List.mem_cons.mp hmem with e | e
    · exact hTI j hm.1.1 (hm.1.2 ▸ e)
    · cases e
  done := fun s Q E st hQ => next_seq_end hh st.1 st.2.1 (by simp) fun h' he' => hQ h' s.toks fun b o hb e => he' b o (fun h => hb (by simp [h])) e
  self := fun _ _ _ _ st hQ => wpAny_pyIter_listiter st.1 hQ
section
variable {w : World} {s : Shared} {A : Around} {E : Value → Shared → Prop} {x dx : Addr} {items : Array Value} {n : Nat} {odx : Obj} {K : Frag}
theorem iter_acc {Q : Value → Shared → Prop} (X : K.In s.heap) (I : InstAt s.heap x (accO dx items n) 200 (some odx)) (hm : mroIn K 200 (.type "list") = some true)
    (hf : findIn K (.ref 200) "__iter__" = some (some (.builtin "list.__iter__")))
    (hQ : Q (.ref s.heap.objs.size) { s with heap := s.heap.push { cls := .type "list_iterator", data := .fields #[.ref x, .int 0 0] } }) :
    wpAny (model P0 w) A (pyIter (.ref x)) Q E s := by
  have one : ∀ refuse : Sem Value, wpAny (model P0 w) A (callSpecialIfBoundUnlessNone? (.ref x) "__iter__" refuse) (fun r s' => r = some (.ref s.heap.objs.size) ∧ s' = { s with heap := s.heap.push { cls := .type "list_iterator", data := .fields #[.ref x, .int 0 0] } }) E s := by
    intro refuse
    simp only [callSpecialIfBoundUnlessNone?, bindSpecialIfBound?, specialOf]
    refine wpAny_holding (wpAny_bind (wpAny_bind (wpAny_bind (I.type.here ((looks_findIn X hf).here ?_)))))
    simp only [slot_list_iter.bind]
    refine wpAny_bind (wpAny_askSetting (wpAny_ite ?_))
    have fin : wpAny (model P0 w) A (if (Value.builtin "list.__iter__" == Value.none) = true then (refuse >>= fun v => pure (some v)) else (call (.builtin "list.__iter__") [.ref x] >>= fun v => pure (some v))) (fun r s' => r = some (.ref s.heap.objs.size) ∧ s' = { s with heap := s.heap.push { cls := .type "list_iterator", data := .fields #[.ref x, .int 0 0] } }) E s := by
      simp only [builtin_beq_none, Bool.false_eq_true, if_false]
      refine wpAny_bind (call_bi_slot (owner := "list") (n := "__iter__") slot_list_iter.plain (by decide +kernel) (by decide +kernel) (acc_isList X I hm) entry_list_iter (args_list_iter _) ?_)
      show wpAny _ _ (do ret (← newFields "list_iterator" [.ref x, rawInt 0])) _ _ s
      exact wpAny_bind (wpAny_newObj_type (wpAny_pure ⟨_, rfl, wpAny_pure ⟨rfl, rfl⟩⟩))
    split
    · exact wpAny_bind (wpAny_pure (wpAny_pure fin))
    · exact wpAny_tryCatch (wpAny_bind (wpAny_pure (wpAny_pure fin)))
  unfold pyIter
  unfold specialOf
  refine wpAny_bind (wpAny_bind (I.type.here ((looks_findIn X hf).here ?_)))
  show wpAny _ A (callSpecialIfBoundUnlessNone? (.ref x) "__iter__" _ >>= _) Q E s
  refine wpAny_bind (wpAny_mono (one _) (fun r s' hr => ?_) fun _ _ e => e)
  obtain ⟨rfl, rfl⟩ := hr
  dsimp only
  refine wpAny_bind (wpAny_specialOf (T := "list_iterator") ⟨_, Heap.get?_push_size _ rfl, rfl⟩ slot_listiter_next.lookup (wpAny_pure hQ))
end
end
section
/-- the rows of an accumulator -/
structure Rws (h : Heap) (items : Array Value) (ws : List (PySem.Str × PySem.Str)) : Prop where
  size : items.size = ws.length
  at_ : ∀ (k : Nat) (p : PySem.Str × PySem.Str), ws[k]? = some p → ∃ (T : Addr) (t1 t2 : Tok), items[k]? = some (Value.ref T) ∧ h.get? T = some (tupO [.str p.1 t1, .str p.2 t2])
theorem Rws.keeps {h h' : Heap} {items : Array Value} {ws : List (PySem.Str × PySem.Str)} (R : Rws h items ws) (k : Keeps h h') : Rws h' items ws :=
  ⟨R.size, fun i p e => let ⟨T, t1, t2, a, b⟩ := R.at_ i p e; ⟨T, t1, t2, a, k _ _ b⟩⟩
/-- a generator made just now -/
noncomputable def GenNow (w : World) (A : Around) (h₀ : Heap) (a : Addr) (n : Nat) (P : Nat → Value → Prop) (s : Shared) : Prop :=
  ∃ fp wr G St, WalksS P0 w A.in4 a fp wr G n P St ∧ St 0 s ∧ (∀ b ∈ fp, b < s.heap.objs.size) ∧ a ∈ fp ∧ (∀ i s, St i s → s.TypeIs (.ref a) "generator") ∧ (∀ b ∈ wr, h₀.get? b = none) ∧ (∀ x y, G x y → AllBare x → AllBare y)
theorem GenNow.tok {w : World} {A : Around} {h₀ : Heap} {a n : Nat} {P : Nat → Value → Prop} {s : Shared} (x : GenNow w A h₀ a n P s) {tk : Nat} (h : s.toks ≤ tk) : GenNow w A h₀ a n P { s with toks := tk } := by
  obtain ⟨fp, wr, G, St, W, st, r⟩ := x
  exact ⟨fp, wr, G, St, W, W.frame 0 s _ _ st h fun _ _ _ e => e, r⟩
theorem choose_rows {h : Heap} {items : Array Value} {ws : List (PySem.Str × PySem.Str)} (R : Rws h items ws) : ∃ (Ts : Nat → Addr) (vals : Nat → Array Value),
    ∀ k, k < items.size → items[k]? = some (.ref (Ts k)) ∧ h.IsTuple (Ts k) (vals k) ∧ (∃ p t1 t2, ws[k]? = some p ∧ vals k = #[.str p.1 t1, .str p.2 t2]) := by
  have z : ∀ k, ∃ q : Addr × Array Value, k < items.size → items[k]? = some (.ref q.1) ∧ h.IsTuple q.1 q.2 ∧ (∃ p t1 t2, ws[k]? = some p ∧ q.2 = #[.str p.1 t1, .str p.2 t2]) := by
    intro k
    by_cases hk : k < items.size
    · have hk' : k < ws.length := R.size ▸ hk
      obtain ⟨T, t1, t2, a, b⟩ := R.at_ k _ (List.getElem?_eq_getElem hk')
      exact ⟨(T, #[.str ws[k].1 t1, .str ws[k].2 t2]), fun _ => ⟨a, ⟨_, b, rfl, _, rfl⟩, _, t1, t2, List.getElem?_eq_getElem hk', rfl⟩⟩
    · exact ⟨(0, #[]), fun q => absurd q hk⟩
  exact ⟨fun k => (z k).choose.1, fun k => (z k).choose.2, fun k hk => (z k).choose_spec hk⟩
theorem passing_all : ∀ (n i : Nat), i ≤ n → passing (fun _ => true) n i = (List.range (n - i)).map (· + i) := by
  intro n i hi
  obtain ⟨k, rfl⟩ := Nat.le.dest hi
  induction k generalizing i with
  | zero => rw [show i + 0 = i from rfl, passing_end]; simp
  | succ k ih =>
    rw [passing_true (by omega) rfl]
    have := ih (i + 1) (by omega)
    rw [show i + (k + 1) = i + 1 + k by omega, this]
    rw [show i + 1 + k - i = k + 1 by omega, List.range_succ_eq_map, show i + 1 + k - (i + 1) = k by omega]
    simp [List.map_map, Function.comp_def]
    intro a _; omega
/-- a code object and its table -/
structure IcT (h : Heap) (c P : Addr) (ps : Array Value) : Prop where
  code : h.IsCode c P ps
  tab : h.TableAt c P ps
theorem IcT.keeps {h h' : Heap} {c P : Addr} {ps : Array Value} (x : IcT h c P ps) (k : ∀ b o, h.get? b = some o → h'.get? b = some o) : IcT h' c P ps := ⟨x.code.keeps k, x.tab.keeps k⟩
theorem genexprCodeT {M : Model} {A : Around} {E : Value → Shared → Prop} {s : Shared} {env : Env} {c P : Addr} {ps : Array Value} {pos : Pos} {qualname : PySem.Str} {scope : Scope} {Q : Value → Shared → Prop} (hc : env.code = .ref c) (hok : IcT s.heap c P ps)
    (hQ : ∀ code h' tk ps', Heap.ExtBut P s.heap h' → IcT h' c P ps' → Q code { s with heap := h', toks := tk }) : wpAny M A (genexprCode env pos qualname scope) Q E s := by
  cases hnf : codeAmong pos ps.toList with
  | some cv => exact wpAny_genexprCode_hit hc hok.code hnf (hQ cv s.heap s.toks ps (Heap.ExtBut.refl _ _) hok)
  | none => exact wpAny_genexprCodeX hc hok.code hok.tab hnf fun c' h' tk hx _ _ hI _ hT _ => hQ _ h' tk _ hx ⟨hI, hT⟩
section
variable {w : World} {s : Shared} {A : Around} {E : Value → Shared → Prop} {g : Heap} {L : Addr} {m : PySem.Str → Option Value} {news : List (Addr × Obj)} {x dx c P : Addr} {items : Array Value} {n : Nat} {odx oP : Obj} {ps : Array Value} {ws : List (PySem.Str × PySem.Str)}
theorem gen_acc {qn : PySem.Str} {sc : Scope} {f : Addr} {ecl : List (PySem.Str × Addr)} {elt iter : Expr} {xa xb : PySem.Str} {pa pb pt : Pos} {kt : Nat} {scope : Scope} {cl : List (PySem.Str × Addr)} {pos : Pos} {Q : Value → Shared → Prop} {Fo : PySem.Str × PySem.Str → Value → Prop}
    (B : Bs w g) (F : Fr g L s.heap m) (N : News g L s.heap news) (hx : (x, accO dx items n) ∈ news) (hd : (dx, odx) ∈ news) (hP : (P, oP) ∈ news) (hxP : @Ne Nat x P) (hdP : @Ne Nat dx P)
    (R : Rws s.heap items ws) (hTP : ∀ T, .ref T ∈ items → T ≠ P) (hIC : IcT s.heap c P ps)
    (hm : mroIn (Mine.hd.heap_39 w.params) 200 (.type "list") = some true) (hf : findIn (Mine.hd.heap_39 w.params) (.ref 200) "__iter__" = some (some (.builtin "list.__iter__")))
    (hh : A.handled = none) (hco : scope.isCoroutine = false) (hclos : closureFor scope (envX qn sc L f (.ref c) ecl) = pure cl) (hcell : ∀ y ∈ scope.names, y.2 ≠ .cell) (h0 : scope.names.lookup (".0" : PySem.Str) = some NameKind.local)
    (hxa : scope.names.lookup xa = some .local) (hxb : scope.names.lookup xb = some .local) (hab : xa ≠ xb) (hkind : scope.kind = .function) (hroom : A.depth < recursionLimit) (hs : ∀ x, genFold iter (envX qn sc L f (.ref c) ecl) x = pure x)
    (hiter : ∀ {Q : Value → Shared → Prop}, Q (.ref x) s → wpAny (model P0 w) A (eval iter (envX qn sc L f (.ref c) ecl)) Q E s)
    (helt : ∀ (A' : Around) E' (C : Addr) (code : Value) (s₂ : Shared) m₂ p t1 t2, A'.handled = none → Fr g C s₂.heap m₂ → m₂ xa = some (.str p.1 t1) → m₂ xb = some (.str p.2 t2) → p ∈ ws →
      wpAny (model P0 w) A' (eval elt (genEnv scope cl C code builtinsNs (envX qn sc L f (.ref c) ecl))) (fun y s₃ => Fo p y ∧ PySem.Keeps s₂ s₃) E' s₂)
    (hQ : ∀ a h' gs' tk ps', KeepsBut [P] s.heap h' → IcT h' c P ps' → (AllBare s.gens → AllBare gs') →
      GenNow w A s.heap a ws.length (fun j y => ∃ p, ws[j]? = some p ∧ Fo p y) { s with heap := h', gens := gs', toks := tk } → Q (.ref a) { s with heap := h', gens := gs', toks := tk }) :
    wpAny (model P0 w) A (eval (.GeneratorExp elt [⟨.Tuple [.Name xa pa, .Name xb pb] kt pt, iter, [], 0⟩] scope pos) (envX qn sc L f (.ref c) ecl)) Q E s := by
  refine topE B.T fun {p0 loose mean mg mb} T => ?_
  obtain ⟨bm, ob, BM⟩ := bmod_of_top T
  have nd : s.heap.NoLimit := T.nolimit.keeps F.keep
  have IA : InstAt s.heap x (accO dx items n) 200 (some odx) := acc_inst N hx hd
  refine wpAny_GeneratorExp_walksQT hh hco hclos hcell h0 hxa hxb hab hkind hroom (hiter ?_) hs
  refine iter_acc (B.X.keeps F.keep) IA hm hf ?_
  have k2 : Keeps s.heap (s.heap.push { cls := .type "list_iterator", data := .fields #[.ref x, .int 0 0] }) := fun b o e => Heap.get?_push_of_some _ e
  refine ⟨nd.keeps k2, genexprCodeT rfl (hIC.keeps k2) fun code h₃ tk₃ ps₃ hx₃ hIC₃ => ?_⟩
  have gP : g.get? P = none := (N _ hP).2.2
  have k3 : KeepsBut [P] s.heap h₃ := fun b o nb e => hx₃ b o (fun q => nb (by simp [q])) (k2 b o e)
  have kg : Keeps g h₃ := fun b o e => k3 b o (fun q => by rw [List.mem_singleton.mp q, gP] at e; cases e) (F.keep b o e)
  have BM₃ := BM.keeps kg
  refine wpAny_builtinsFor BM₃.ns BM₃.name BM₃.ne BM₃.obj BM₃.cls BM₃.dict BM₃.data ?_
  obtain ⟨Ts, vals, hrow⟩ := choose_rows R
  have hI : s.heap.objs.size ≠ P := Nat.ne_of_gt (Heap.lt_size (N _ hP).1)
  have hITx : x ≠ s.heap.objs.size := Nat.ne_of_lt (Heap.lt_size (N _ hx).1)
  have hTs : ∀ k, k < items.size → h₃.get? (Ts k) ≠ none ∧ Ts k ≠ s.heap.objs.size ∧ h₃.IsTuple (Ts k) (vals k) := by
    intro k hk
    obtain ⟨e1, ⟨o, e2, r⟩, _⟩ := hrow k hk
    have nP : Ts k ≠ P := hTP _ (by
      have := Array.getElem?_eq_some_iff.mp e1
      obtain ⟨h, q⟩ := this
      rw [← q]; exact Array.getElem_mem h)
    have e3 := k3 _ o (fun q => nP (List.mem_singleton.mp q)) e2
    exact ⟨by rw [e3]; simp, Nat.ne_of_lt (Heap.lt_size e2), ⟨o, e3, r⟩⟩
  have itI : h₃.get? s.heap.objs.size = some { cls := .type "list_iterator", data := .fields #[.ref x, .int 0 0] } := hx₃ _ _ hI (Heap.get?_push_size _ rfl)
  have hL3 : L < h₃.objs.size := by
    obtain ⟨oL, es', ep, hL, r⟩ := F.ns
    exact Heap.lt_size (k3 _ _ (fun q => by rw [← List.mem_singleton.mp q] at hP; exact (N _ hP).2.1 rfl) hL)
  have gI : ∀ b, b = s.heap.objs.size → g.get? b = none := fun b q => by
    subst q
    cases z : g.get? s.heap.objs.size with
    | none => rfl
    | some o => exact absurd (Heap.lt_size (F.keep _ _ z)) (Nat.lt_irrefl _)
  have st0 : (fun j (h : Heap) => h.IsListIter s.heap.objs.size x j ∧ SeqAt h x items ∧ ∀ k, k < items.size → h.IsTuple (Ts k) (vals k)) 0 h₃ :=
    ⟨⟨_, itI, rfl, rfl⟩, ⟨_, n, k3 _ _ (fun q => hxP (List.mem_singleton.mp q)) (N _ hx).1, rfl⟩, fun k hk => (hTs k hk).2.2⟩
  refine ⟨s.heap.objs.size, s.heap.objs.size :: x :: (List.range items.size).map Ts, [s.heap.objs.size], items.size, _, _, _, fun _ => true, fun i y => ∃ p, ws[i]? = some p ∧ Fo p y, rfl,
    fun A' hA' => walks_acc hA' s.heap.objs.size x hITx items Ts vals (fun j hj => (hrow j hj).1) (fun j hj => (hTs j hj).2.1), ?_, st0, ?_, ?_, ?_, ?_, ?_⟩
  · rintro i v ⟨hi, rfl⟩
    obtain ⟨_, _, p, t1, t2, _, e⟩ := hrow i hi
    exact ⟨_, _, e⟩
  · intro b hb
    have : h₃.get? b ≠ none := by
      rcases List.mem_cons.mp hb with rfl | hb
      · rw [itI]; simp
      · rcases List.mem_cons.mp hb with rfl | hb
        · rw [k3 _ _ (fun q => hxP (List.mem_singleton.mp q)) (N _ hx).1]; simp
        · obtain ⟨k, hk, e⟩ := List.mem_map.mp hb; rw [← e]
          exact (hTs k (List.mem_range.mp hk)).1
    cases z : h₃.get? b with
    | none => exact absurd z this
    | some o => exact Heap.lt_size z
  · exact T.nolimit.keeps kg
  · intro q
    have hns := T.nolimit
    obtain ⟨_, hn, _⟩ := hns
    obtain ⟨o, _, _, e, _⟩ := hn
    have q := List.mem_singleton.mp q
    rw [gI _ q] at e; cases e
  · intro href hhref
    have up : ∀ (s₂ : Shared) m₂, s₂.heap.Ns h₃.objs.size m₂ → (∀ b ∈ List.range h₃.objs.size, b ∉ [s.heap.objs.size] → ∀ o, href.get? b = some o → s₂.heap.get? b = some o) → Fr g h₃.objs.size s₂.heap m₂ := fun s₂ m₂ hn hk => by
      refine ⟨hn, fun b o e => ?_, ?_⟩
      · have e3 := kg b o e
        exact hk b (List.mem_range.mpr (Heap.lt_size e3)) (fun q => by rw [gI b (List.mem_singleton.mp q)] at e; cases e) o (hhref b o e3)
      · exact Nat.le_of_lt (Nat.lt_of_le_of_lt F.above hL3)
    refine ⟨fun A' E' i va vb s₂ m₂ hA' hp hn ha hb hk => ?_, fun A' E' i va vb s₂ m₂ hA' hp _ hn ha hb hk => ?_⟩
    · simp only [List.forIn_nil]
      exact wpAny_pure ⟨rfl, s₂.heap, s₂.toks, rfl, fun _ _ e => e⟩
    · obtain ⟨hi, e⟩ := hp
      obtain ⟨_, _, p, t1, t2, hp, e'⟩ := hrow i hi
      rw [e'] at e
      have e1 : va = .str p.1 t1 ∧ vb = .str p.2 t2 := by simpa using e
      obtain ⟨rfl, rfl⟩ := e1
      refine wpAny_mono (helt A' E' _ code s₂ m₂ p t1 t2 hA' (up s₂ m₂ hn hk) ha hb (List.mem_of_getElem? hp)) (fun y s₃ h => ⟨⟨p, hp, h.1⟩, h.2⟩) fun _ _ e => e
  · intro a h₅ tk gs hgb hag hsz₅ hk₅ W hat
    have hlen : (passing (fun _ => true) items.size 0).length = ws.length := by rw [passing_all _ _ (Nat.zero_le _)]; simp [R.size]
    refine hQ a h₅ _ tk ps₃ (fun b o nb e => hk₅ b o (k3 b o nb e)) (hIC₃.keeps hk₅) (fun hb => hb.push hgb) ?_
    rw [hlen] at W
    refine ⟨_, _, _, _, ⟨W.sub, W.grefl, W.gtrans, W.frame, fun i s Q E hi st hq => W.item i s Q E hi st fun v s' hv => hq v s' ?_, W.done, W.self⟩, hat, ?_, List.mem_cons_self, fun i s' st => st.1.typeIs, ?_, fun x y hG hb => hG.bare hb⟩
    · obtain ⟨i', e1, p, e2, e3⟩ := hv
      rw [passing_all _ _ (Nat.zero_le _)] at e1
      have : i' = i := by
        obtain ⟨hl, q⟩ := List.getElem?_eq_some_iff.mp e1
        simp at q
        omega
      subst this
      exact ⟨p, e2, e3⟩
    · intro b hb
      show b < h₅.objs.size
      rw [hsz₅]
      rcases List.mem_cons.mp hb with rfl | hb
      · exact Nat.lt_succ_self _
      · rcases List.mem_cons.mp hb with rfl | hb
        · exact Nat.lt_succ_of_lt hag
        · exact Nat.lt_succ_of_lt (Nat.lt_trans (List.mem_range.mp hb) hag)
    · intro b hb
      have hge : ∀ b, s.heap.objs.size ≤ b → s.heap.get? b = none := fun b hb => by
        cases z : s.heap.get? b with
        | none => rfl
        | some o => exact absurd (Heap.lt_size z) (Nat.not_lt_of_le hb)
      rcases List.mem_cons.mp hb with rfl | hb
      · exact hge _ (Nat.le_of_lt (Heap.lt_size itI))
      · rw [List.mem_singleton.mp hb]; exact hge _ (Nat.le_refl _)
end
end
section
section
variable {w : World} {A : Around} {E : Value → Shared → Prop} {s : Shared} {K : Frag} {x : Addr} {ox : Obj} {od : Option Obj} {name : PySem.Str} {expr : Bool} {Q : Value → Shared → Prop}
theorem get_valueA {v : Value} (X : K.In s.heap) (I : InstAt s.heap x ox 200 od) (hm : mroIn K 200 (.type "list") = some true) (hga : findIn K (.ref 200) "__getattribute__" = some (some (.builtin "list.__getattribute__")))
    (hk : findIn K (.ref 200) "__getattr__" = some none) (hf : findObj K 200 od name = some (.value v)) (hh : handedIn v = true) (h : Q v { s with toks := s.toks + 1 }) : wpAny (model P0 w) A (getAttr (.ref x) name expr) Q E s := by
  obtain ⟨hp, g, d, t, os⟩ := s
  have L0 := I.type (M := model P0 w)
  have L1 := looks_findIn (M := model P0 w) X hga
  have L2 := looks_findIn (M := model P0 w) X hk
  have L3 := looks_find (M := model P0 w) X I hf
  unfold getAttr getAttrBy
  refine wpAny_bind (wpAny_mkText (wpAny_holding (wpAny_bind (L0.at (wpAny_bind (L1.at ?_))))))
  show wpAny _ _ (getAttrByItsOwn (.ref x) (.str name t) (.ref 200) (.builtin "list.__getattribute__") true expr) _ _ _
  unfold getAttrByItsOwn hookBefore callGetattribute
  refine wpAny_bind ?_
  show wpAny _ _ (typeLookup (.ref 200) "__getattr__") _ _ _
  refine L2.at ?_
  refine wpAny_bind (wpAny_attempt (wpAny_holding ?_))
  rw [show (expr && onTheHeap (.builtin "list.__getattribute__")) = false from by cases expr <;> rfl, if_neg (by decide)]
  unfold boundAndCalled
  refine wpAny_bind (wpAny_of_eq (PySem.F.slot_list_getattribute.bind _) ?_)
  refine call_bi_slot (owner := "list") (n := "__getattribute__") PySem.F.slot_list_getattribute.plain (by decide +kernel) (by decide +kernel) (acc_isList X I hm) PySem.F.entry_list_ga (PySem.F.args_list_getattribute_2 _ _) ?_
  unfold Builtin.«object.__getattribute__»
  refine wpAny_bind (wpAny_pure ?_)
  dsimp only
  refine wpAny_bind (wpAny_pure ?_)
  refine wpAny_bind (L0.at (wpAny_bind (L3.at ?_)))
  dsimp only
  refine wpAny_pure ⟨v, rfl, ?_⟩
  show wpAny _ _ (handedOut v) _ _ _
  rw [handedOut_of hh]; exact wpAny_pure h
end
section
variable {w : World} {A : Around} {E : Value → Shared → Prop} {s : Shared} {K : Frag} {h₀ : Heap} {L : Addr} {m : PySem.Str → Option Value} {x : Addr} {ox : Obj} {es : List DictEntry} {n : Nat} {name : PySem.Str} {expr : Bool} {Q : Value → Shared → Prop}
theorem get_ownA {v : Value} {attr : Option Value} (F : Fr h₀ L s.heap m) (X₀ : K.In h₀) (I : InstAt s.heap x ox 200 (some (dictOf es n))) (hm : mroIn K 200 (.type "list") = some true) (hga : findIn K (.ref 200) "__getattribute__" = some (some (.builtin "list.__getattribute__")))
    (hk : findIn K (.ref 200) "__getattr__" = some none) (hh : hasDictIn K 200 = true) (ha : findIn K (.ref 200) name = some attr) (hn : noGet K attr = true) (hl : getL name es = some (some v)) (hv : handedIn v = true) (h : Q v { s with toks := s.toks + 1 }) :
    wpAny (model P0 w) A (getAttr (.ref x) name expr) Q E s :=
  get_valueA (X₀.keeps F.keep) I hm hga hk (findObj_own hh ha hn (by show lookIn name (dictOf es n) = _; rw [lookIn_dict, hl])) hv h
end
end
section
theorem kw_B8_1 : True := by
  k_with_none
  k_with "execs cons" => ((with_reducible refine seq_cons fun zQ1 ztk zhQ1 => ?_); try dsimp only)
  trivial
noncomputable def TabO (o : Obj) : Prop := ∃ ps, o = tabObj ps ∧ TriplesOk ps.toList
theorem ex10 {a1 a2 a3 a4 a5 a6 a7 a8 a9 a10 : Type} {p : a1 → a2 → a3 → a4 → a5 → a6 → a7 → a8 → a9 → a10 → Prop} {b : Prop} (h : ∃ x1 x2 x3 x4 x5 x6 x7 x8 x9 x10, p x1 x2 x3 x4 x5 x6 x7 x8 x9 x10) (k : ∀ {x1 x2 x3 x4 x5 x6 x7 x8 x9 x10}, p x1 x2 x3 x4 x5 x6 x7 x8 x9 x10 → b) : b :=
  h.elim fun _ h => h.elim fun _ h => h.elim fun _ h => h.elim fun _ h => h.elim fun _ h => h.elim fun _ h => h.elim fun _ h => h.elim fun _ h => h.elim fun _ h => h.elim fun _ h => k h
/-- a code table stands there -/
noncomputable def Tb (h : Heap) (P : Addr) : Prop := ∃ o, h.get? P = some o ∧ TabO o
theorem isCode_tab {h : Heap} {c P : Addr} {ps : Array Value} (x : IcT h c P ps) : ∃ o, h.get? P = some o ∧ TabO o :=
  ex10 x.code fun z => ⟨_, x.tab.2, ps, rfl, z.2.2.2.2.2.2.2.2.2.1⟩
theorem ic162 {w : World} {h : Heap} {oP : Obj} (X : (Mine.hd.heap_39 w.params).In h) (hP : h.get? 162 = some oP) (T : TabO oP) : ∃ ps, IcT h 166 162 ps := by
  obtain ⟨ps, rfl, ht⟩ := T
  have C : CodeHd h 166 162 := codeHd_of_K X (by kernel_rfl)
  exact ⟨ps, C.code hP ht, C.tab hP⟩
theorem ic169 {w : World} {h : Heap} {oP : Obj} (X : (Mine.hd.heap_39 w.params).In h) (hP : h.get? 169 = some oP) (T : TabO oP) : ∃ ps, IcT h 173 169 ps := by
  obtain ⟨ps, rfl, ht⟩ := T
  have C : CodeHd h 173 169 := codeHd_of_K X (by kernel_rfl)
  exact ⟨ps, C.code hP ht, C.tab hP⟩
theorem fillB8 (w : World) (h : Heap) (X : (Mine.hd.heap_39 w.params).In h) (e : PySem.Challenge.rw_wu0089_01.foot = PySem.Challenge.rw_wu0089_01.foot) : True := by
  revert X e; k_fill; intro _ _; trivial

theorem kw_B8_2 : True := by
  k_with "k_inst" => (refine' acc_inst ?q2a ?q2b ?q2c; (case q2a => k_asm); (case q2b => k_mem); (case q2c => k_mem))
  k_with "getMethod ref" => (k_here; (with_reducible show wpAny _ _ (getMethod (Value.ref _) (PySem.Str.ofString "append") _) _ _ _); k_dflt (refine' method_bi ?q6a ?q6b ?q6c ?q6d ?q6h ?q6i ?q6e ?q6f ?q6g ?_; (case q6a => k_asm); (case q6b => k_asm); (case q6c => k_inst); (case q6d => k_is); (case q6h => kernel_rfl); (case q6i => k_is); (case q6e => k_is); (case q6f => kernel_rfl); (case q6g => first | assumption | k_get); k_whole))
  k_with "call builtin:list.append" => (k_here; (with_reducible show wpAny _ _ (call (Value.builtin _) [Value.ref _, _]) _ _ _); k_dflt (refine' append_acc ?q4a ?q4b ?q4c ?q4d ?q4e ?q4f ?_ ?q4g; (case q4a => k_asm); (case q4b => k_asm); (case q4c => k_asm); (case q4e => k_is); (case q4f => k_upd); (case q4d => k_mem); (case q4g => assumption); k_whole); intro zh' zF' zN'; (try k_sweep))
  k_with "ktr_enter" => (refine' enter_fn ?q7a ?q7d ?q7e ?q7f ?q7g ?q7h ?q7i ?_ ?q7j ?q7k ?q7b ?q7c; (case q7g => assumption); (case q7a => assumption); (case q7e => k_is); (case q7f => k_is); (case q7d => decide); (case q7h => first | exact BindsTo.of_eq rfl | exact binds_K (Gd.here (by assumption)).X rfl (by k_is) rfl rfl rfl); (case q7j => decide); (case q7i => exact locs rfl); (case q7k => exact rfl); (case q7b => exact rfl); (case q7c => exact rfl); k_whole; rintro zg' zL' zh' zp' zl' zmean' zmg' zmb' zT' zX' zGN zF' zN' zl1 zK1 zhL'; (try dsimp only); (try k_fold))
  k_with "ks_enter" => (refine' enter_at ?q8a ?q8d ?q8e ?q8f ?q8g ?q8h ?q8i ?_ ?q8j ?q8k ?q8b ?q8c; (case q8g => assumption); (case q8a => assumption); (case q8e => k_is); (case q8f => k_is); (case q8d => decide); (case q8h => first | exact BindsTo.of_eq rfl | exact binds_K (Gd.here (by assumption)).X rfl (by k_is) rfl rfl rfl); (case q8j => decide); (case q8i => exact locs rfl); (case q8k => exact rfl); (case q8b => exact rfl); (case q8c => exact rfl); k_whole; rintro zg' zL' zh' zp' zl' zmean' zmg' zmb' zT' zX' zGN zF' zN' zl1 zK1 zhL'; (try dsimp only))
  k_with "callWith ref" => (k_here; (with_reducible show wpAny _ _ (callWith _ (Value.ref _) [] (backTo _ (starEach [] _)) []) _ _ _); k_dflt (refine' callWith_B0 ?q9a ?q9b ?q9c ?_; (case q9a => k_asm); (case q9b => k_mem); (case q9c => first | exact .inl rfl | exact .inr rfl)))
  k_with "getAttr ref" => (k_here; (with_reducible show wpAny _ _ (getAttr (Value.ref _) _ _) _ _ _); k_dflt (refine' get_ownA ?q10d ?q10e ?q10f ?q10l ?q10m ?q10n ?q10g ?q10h ?q10i ?q10j ?q10k ?_; (case q10d => k_asm); (case q10e => k_asm); (case q10f => (refine' acc_inst ?q10a ?q10b ?q10c; (case q10a => k_asm); (case q10b => k_mem); (case q10c => k_mem))); (case q10l => k_is); (case q10m => k_is); (case q10n => k_is); (case q10g => k_is); (case q10h => k_is); (case q10i => k_is); (case q10j => first | assumption | k_get); (case q10k => k_handed); k_whole))
  trivial
section
variable {w : World} {s : Shared} {A : Around} {E : Value → Shared → Prop} {h₀ : Heap} {a n : Nat} {P : Nat → Value → Prop}
theorem sum2_now {Q : Value → Shared → Prop} {t : Tok} (G : GenNow w A h₀ a n P s) (val : Nat → Int) (hval : ∀ i v, P i v → ∃ t, v = .int (val i) t) (hfit : ∀ j, j < n → InLong (val j) ∧ InLong (preSum val (j + 1)))
    (hQ : ∀ h' gs' tk t', (∀ b o, h₀.get? b ≠ none → s.heap.get? b = some o → h'.get? b = some o) → (AllBare s.gens → AllBare gs') → Q (.int (preSum val n) t') { s with heap := h', gens := gs', toks := tk }) :
    wpAny (model P0 w) A (call (.builtin "sum") [.ref a, .int 0 t]) Q E s := by
  obtain ⟨fp, wr, Gn, St, W, hst, hfp, hI, hT, hwr, hb⟩ := G
  have W := W.in4_1
  refine call_function_tree PySem.F.kind_sum PySem.F.plain_sum PySem.F.entry_sum (by unfold argsOk; kernel_rfl) ?_
  unfold Builtin.«sum»
  simp only [List.length_cons, List.length_nil]
  rw [if_neg (by decide)]
  refine wpAny_bind (wpAny_of_eq (show Builtin.Builtins.bindParams "sum" ["start"] 0 ⟨[.int 0 t], []⟩ = pure [some (.int 0 t)] from rfl) ?_)
  dsimp only
  refine wpAny_bind (W.self 0 s _ _ hst ?_)
  rw [if_pos (by decide)]
  refine wpAny_bind (wpAny_rule (wpAny_bind (wpAny_mkInt ?_)))
  refine wpAny_bind (wpAny_pure ?_)
  simp only [List.forIn_cons, List.forIn_nil]
  refine wpAny_bind (wpAny_bind (wpAny_bind (wpAny_isInstance (T := "int") (b := false) (typeIs_int _ _ _) PySem.sub_int_str ?_)))
  simp only [Bool.false_eq_true, if_false]
  refine wpAny_pure (wpAny_bind (wpAny_bind (wpAny_isInstance (T := "int") (b := false) (typeIs_int _ _ _) PySem.sub_int_bytes ?_)))
  simp only [Bool.false_eq_true, if_false]
  refine wpAny_pure (wpAny_bind (wpAny_bind (wpAny_isInstance (T := "int") (b := false) (typeIs_int _ _ _) PySem.sub_int_bytearray ?_)))
  simp only [Bool.false_eq_true, if_false]
  refine wpAny_pure (wpAny_pure ?_)
  refine wpAny_bind (wpAny_newObj_type ?_)
  have hSf : s.heap.objs.size ∉ fp := fun hm => Nat.lt_irrefl _ (hfp _ hm)
  refine wpAny_pure ⟨plainId_quiet PySem.F.plain_sum_loop _, codeAny_sum_loopS W val hval hfit s.heap.objs.size hSf n 0 _ s.toks 0 rfl (Nat.zero_le _)
    (W.frame 0 s _ _ hst (by first | exact Nat.le_refl _ | exact Nat.le_succ _ | omega) fun b _ o e => Heap.get?_push_of_some _ e) (Heap.get?_push_size _ rfl) fun s' t' hm => ?_⟩
  have hm := hm.drop_new (by first | exact Nat.le_refl _ | exact Nat.le_succ _ | omega)
  have : s' = { s with heap := s'.heap, gens := s'.gens, toks := s'.toks } := by
    obtain ⟨h, gg, d, tk, os⟩ := s'
    have e1 := hm.drawn; have e2 := hm.os
    dsimp only at e1 e2
    subst e1; subst e2; rfl
  rw [this]
  exact hQ _ _ _ _ (fun b o n0 e => hm.heap b o (fun hw => n0 (hwr b hw)) e) (hb _ _ hm.gens)
end
section
variable {M : Model} {A : Around} {E : Value → Shared → Prop} {s : Shared} {K : Frag} {h₀ : Heap} {L a C : Addr} {m mg mb : PySem.Str → Option Value} {cn : PySem.Str} {cs scope : Scope} {ccd code : Value} {cl ecl : List (PySem.Str × Addr)} {p : Program} {loose : List PySem.Str} {mean : ExcName → Option Value}
  {x : PySem.Str} {pos : Pos} {v : Value} {Q : Value → Shared → Prop}
theorem nameGen_K (F : Fr h₀ C s.heap m) (X : K.In h₀) (T : Top p loose mean mg mb h₀) (e : nsIn K mainGlobals x = some (some v)) (h : Q v s)
    (hk : scope.kind = .function := by rfl) (hx : (genEnv scope cl C code builtinsNs (envX cn cs L a ccd ecl)).kindOf x = some .globalImplicit := by rfl) (hd : (x == ("__debug__" : PySem.Str)) = false := by decide) :
    wpAny M A (eval (.Name x pos) (genEnv scope cl C code builtinsNs (envX cn cs L a ccd ecl))) Q E s :=
  Name_function_global hk hx (loadGlobal_global (env := genEnv scope cl C code builtinsNs (envX cn cs L a ccd ecl)) (T.g.keeps F.keep) (mg_of X T.g e) h) hd
theorem nameGen_B (F : Fr h₀ C s.heap m) (X : K.In h₀) (T : Top p loose mean mg mb h₀) (e : nsIn K mainGlobals x = some none) (hv : bootBuiltins x = some v) (hn : x ≠ "__name__") (h : Q v s)
    (hk : scope.kind = .function := by rfl) (hx : (genEnv scope cl C code builtinsNs (envX cn cs L a ccd ecl)).kindOf x = some .globalImplicit := by rfl) (hd : (x == ("__debug__" : PySem.Str)) = false := by decide) :
    wpAny M A (eval (.Name x pos) (genEnv scope cl C code builtinsNs (envX cn cs L a ccd ecl))) Q E s :=
  Name_function_global hk hx (loadGlobal_builtin (env := genEnv scope cl C code builtinsNs (envX cn cs L a ccd ecl)) (T.g.keeps F.keep) (mg_none_of X T.g e) (T.b.keeps F.keep) ((T.builtins x hn).trans hv) h) hd
theorem nameGen_L (F : Fr h₀ C s.heap m) (hv : m x = some v) (h : Q v s)
    (hk : scope.kind = .function := by rfl) (hx : (genEnv scope cl C code builtinsNs (envX cn cs L a ccd ecl)).kindOf x = some .local := by rfl) (hd : (x == ("__debug__" : PySem.Str)) = false := by decide) :
    wpAny M A (eval (.Name x pos) (genEnv scope cl C code builtinsNs (envX cn cs L a ccd ecl))) Q E s := wpAny_Name (wpAny_loadName_local hk hx F.ns hv h) hd
end

noncomputable abbrev wlen (p : PySem.Str × PySem.Str) : Int := (p.1.length : Int) + p.2.length
theorem preSum_getD (ws : List (PySem.Str × PySem.Str)) : ∀ n, n ≤ ws.length → preSum (fun j => wlen (ws.getD j ("", ""))) n = ((ws.take n).map wlen).sum := by
  intro n
  induction n with
  | zero => intro _; simp [preSum]
  | succ n ih =>
    intro h
    have hn : n < ws.length := h
    rw [preSum, ih (Nat.le_of_lt hn), List.take_succ_eq_append_getElem hn, List.map_append, List.sum_append, List.getD_eq_getElem?_getD, List.getElem?_eq_getElem hn]
    simp
theorem preSum_all (ws : List (PySem.Str × PySem.Str)) : preSum (fun j => wlen (ws.getD j ("", ""))) ws.length = (ws.map wlen).sum := by
  rw [preSum_getD ws _ (Nat.le_refl _), List.take_length]
theorem sum_small : ∀ ws : List (PySem.Str × PySem.Str), (∀ p ∈ ws, p.1.length < 1000000 ∧ p.2.length < 1000000) → 0 ≤ (ws.map wlen).sum ∧ (ws.map wlen).sum ≤ 2000000 * ws.length
  | [], _ => by simp
  | p :: ws, h => by
    have h1 := h p (.head _)
    have h2 := sum_small ws fun q hq => h q (.tail _ hq)
    simp only [List.map_cons, List.sum_cons, List.length_cons, wlen]
    omega
theorem wlens_small (ws : List (PySem.Str × PySem.Str)) (h0 : ws.length < 1000000) (h : ∀ p ∈ ws, p.1.length < 1000000 ∧ p.2.length < 1000000) (j : Nat) (hj : j < ws.length) :
    InLong (wlen (ws.getD j ("", ""))) ∧ InLong (preSum (fun j => wlen (ws.getD j ("", ""))) (j + 1)) := by
  rw [preSum_getD ws (j + 1) hj, List.getD_eq_getElem?_getD, List.getElem?_eq_getElem hj]
  have h1 := h ws[j] (List.getElem_mem hj)
  have h2 := sum_small (ws.take (j + 1)) fun q hq => h q (List.mem_of_mem_take hq)
  have h3 : (ws.take (j + 1)).length ≤ ws.length := by rw [List.length_take]; exact Nat.min_le_right _ _
  simp only [Option.getD_some, wlen, InLong]
  omega
theorem len_elt {w : World} {g : Heap} {A' : Around} {E' : Value → Shared → Prop} {C L f : Addr} {code cd : Value} {s₂ : Shared} {m₂ : PySem.Str → Option Value} {p : PySem.Str × PySem.Str} {t1 t2 : Tok} {qn : PySem.Str} {sc : Scope} {p1 p2 p3 p4 p5 p6 p7 : Pos}
  (B : Bs w g) (X' : (Mine.hd.heap_39 w.params).In g) (F : Fr g C s₂.heap m₂) (l1 : (p.1.length : Int) < 1000000) (l2 : (p.2.length : Int) < 1000000) (ha : m₂ "fws" = some (.str p.1 t1)) (hb : m₂ "part" = some (.str p.2 t2)) :
  wpAny (model P0 w) A' (eval (.BinOp (.Call (.Name "len" p1) [.Name "fws" p2] [] p3) .Add (.Call (.Name "len" p4) [.Name "part" p5] [] p6) p7) (genEnv { kind := .function, names := [(".0", .local), ("fws", .local), ("part", .local), ("len", .globalImplicit)], isGenerator := true, isCoroutine := false } [] C code builtinsNs (envX qn sc L f cd [])))
   (fun y s₃ => (∃ t, y = .int (wlen p) t) ∧ PySem.Keeps s₂ s₃) E' s₂ := by
  refine topE B.T fun {p' l' mean' mg' mb'} T' => ?_
  refine wpAny_BinOp (Call_ ?_)
  refine nameGen_B F X' T' (by k_is) (by boot_by_name) (by decide) ?_
  refine PyProof.Rows.callWith_builtin1 (spliced_more (nameGen_L F ha (spliced_none ?_)))
  refine PySem.P.len_str (by omega) (Call_ ?_)
  have F2 : Fr g C s₂.heap m₂ := F
  refine nameGen_B (s := { s₂ with toks := s₂.toks + 1 + 1 }) F2 X' T' (by k_is) (by boot_by_name) (by decide) ?_
  refine PyProof.Rows.callWith_builtin1 (spliced_more (nameGen_L F2 hb (spliced_none ?_)))
  refine PySem.P.len_str (by omega) (wpAny_add_int ⟨⟨_, rfl⟩, s₂.heap, _, rfl, fun _ _ e => e⟩)
section
variable {w : World} {s : Shared} {x dx : Addr} {items : Array Value} {n de : Nat} {es : List DictEntry} {Q E : Value → Shared → Prop} {oP : Obj} {t0 : Tok} {ws : List (PySem.Str × PySem.Str)}
theorem kw_B8_3 : True := by
  k_with "eval GeneratorExp" => (refine stop ?_)
  trivial
theorem len_spec (G : Gd w s.heap [x, dx, 162]) (hx : s.heap.get? x = some (accO dx items n)) (hd : s.heap.get? dx = some (dictOf es de)) (hP : s.heap.get? 162 = some oP) (hTP : TabO oP) (hne : @Ne Nat x dx) (h200 : x ≠ 200) (hxP : @Ne Nat x 162) (hdP : @Ne Nat dx 162) (hes : getL "_initial_size" es = some (some (.int 0 t0)))
    (R : Rws s.heap items ws) (hT2 : ∀ T, .ref T ∈ items → T ≠ 162) (hbig : ws.length < 1000000 ∧ ∀ p ∈ ws, p.1.length < 1000000 ∧ p.2.length < 1000000)
    (hQ : ∀ h' gs' t tk o', KeepsBut [162] s.heap h' → h'.get? 162 = some o' → TabO o' → (AllBare s.gens → AllBare gs') → Q (.int (ws.map wlen).sum t) { s with heap := h', gens := gs', toks := tk }) :
    wpAny (model P0 w) (At 550 3500) (call (.ref 167) [.ref x]) Q E s := by
  have hn : ∀ p ∈ [(x, accO dx items n), (dx, dictOf es de), ((162 : Addr), oP)], s.heap.get? p.1 = some p.2 := by
    refine mem_all3 ?_ ?_ ?_ <;> assumption
  refine wpAny_call ?_
  k_dflt ktr_enter
  k_steps
  all_goals unfold Stop
  rename Gnd w s.heap _ _ => GN
  rename Fr _ _ _ _ => F
  rename News _ _ _ _ => N
  rename (Mine.hd.heap_39 w.params).In _ => X'
  obtain ⟨ps, hIC⟩ := ic162 (X'.keeps F.keep) (N (162, oP) (by k_mem)).1 hTP
  refine' gen_acc (Fo := fun p y => ∃ t, y = .int (wlen p) t) (w := w) GN.bs F N ?a1 ?a2 ?a3 hxP hdP (R.keeps (‹Keeps s.heap _›)) hT2 hIC ?a4 ?a5 ?a6 ?a7 ?a8 ?a9 ?b1 ?b2 ?b3 ?b4 ?b5 ?b6 ?b7 ?c1 ?c2 ?c3
  case a1 => k_mem
  case a2 => k_mem
  case a3 => k_mem
  case a4 => k_is
  case a5 => k_is
  case a6 => rfl
  case a7 => rfl
  case a8 => rfl
  case a9 => decide
  case b1 => rfl
  case b2 => rfl
  case b3 => rfl
  case b4 => decide
  case b5 => rfl
  case b6 => exact Nat.le_of_ble_eq_true rfl
  case b7 => exact fun _ => rfl
  case c1 =>
    intro Q hQ
    k_steps
    exact hQ
  case c2 =>
    intro A' E' C code s₂ m₂ p t1 t2 hA' F2 ha hb hp
    exact len_elt GN.bs X' F2 (by have := (hbig.2 p hp).1; omega) (by have := (hbig.2 p hp).2; omega) ha hb
  case c3 =>
    intro a h' gs' tk ps' k' hI' hb' GNow
    obtain ⟨o', e', T'⟩ := isCode_tab hI'
    have F1 := fr_but F N (x := 162) (o := oP) (by k_mem) k'
    have N1 : News _ _ h' [(x, accO dx items n), (dx, dictOf es de), ((162 : Addr), o')] := news_but N (by k_upd) k' e'
    clear F N
    k_steps
    try dsimp only
    refine sum2_now (GNow.tok (by first | exact Nat.le_refl _ | exact Nat.le_succ _ | (dsimp only; omega))) (fun j => wlen (ws.getD j ("", ""))) ?_ ?_ ?_
    · rintro i v ⟨p, hp, t, rfl⟩
      exact ⟨t, by rw [List.getD_eq_getElem?_getD, hp]; rfl⟩
    · intro j hj
      have := wlens_small ws hbig.1 hbig.2 j hj
      exact this
    · intro h2 gs2 tk2 t2 k2 b2
      rw [preSum_all ws]
      refine hQ h2 gs2 t2 tk2 o' ?_ ?_ T' (fun z => b2 (hb' z))
      · rename Gnd w s.heap _ _ => GN
        intro b o nb e
        have e1 := (‹Keeps s.heap _›) b o e
        exact k2 b o (by dsimp only; rw [e1]; simp) (k' b o nb e1)
      · have e1 := (‹Keeps s.heap _›) _ _ hP
        exact k2 162 o' (by dsimp only; rw [e1]; simp) e'
end
end
section
theorem kw_B9_1 : True := by
  k_with_none
  k_with "execs cons" => ((with_reducible refine seq_cons fun zQ1 ztk zhQ1 => ?_); try dsimp only)
  trivial
theorem fillB9 (w : World) (h : Heap) (X : (Mine.hd.heap_39 w.params).In h) (e : PySem.Challenge.rw_wu0089_01.foot = PySem.Challenge.rw_wu0089_01.foot) : True := by
  revert X e; k_fill; intro _ _; trivial

theorem kw_B9_2 : True := by
  k_with "k_inst" => (refine' acc_inst ?q2a ?q2b ?q2c; (case q2a => k_asm); (case q2b => k_mem); (case q2c => k_mem))
  k_with "getMethod ref" => (k_here; (with_reducible show wpAny _ _ (getMethod (Value.ref _) (PySem.Str.ofString "append") _) _ _ _); k_dflt (refine' method_bi ?q6a ?q6b ?q6c ?q6d ?q6h ?q6i ?q6e ?q6f ?q6g ?_; (case q6a => k_asm); (case q6b => k_asm); (case q6c => k_inst); (case q6d => k_is); (case q6h => kernel_rfl); (case q6i => k_is); (case q6e => k_is); (case q6f => kernel_rfl); (case q6g => first | assumption | k_get); k_whole))
  k_with "call builtin:list.append" => (k_here; (with_reducible show wpAny _ _ (call (Value.builtin _) [Value.ref _, _]) _ _ _); k_dflt (refine' append_acc ?q4a ?q4b ?q4c ?q4d ?q4e ?q4f ?_ ?q4g; (case q4a => k_asm); (case q4b => k_asm); (case q4c => k_asm); (case q4e => k_is); (case q4f => k_upd); (case q4d => k_mem); (case q4g => assumption); k_whole); intro zh' zF' zN'; (try k_sweep))
  k_with "ktr_enter" => (refine' enter_fn ?q7a ?q7d ?q7e ?q7f ?q7g ?q7h ?q7i ?_ ?q7j ?q7k ?q7b ?q7c; (case q7g => assumption); (case q7a => assumption); (case q7e => k_is); (case q7f => k_is); (case q7d => decide); (case q7h => first | exact BindsTo.of_eq rfl | exact binds_K (Gd.here (by assumption)).X rfl (by k_is) rfl rfl rfl); (case q7j => decide); (case q7i => exact locs rfl); (case q7k => exact rfl); (case q7b => exact rfl); (case q7c => exact rfl); k_whole; rintro zg' zL' zh' zp' zl' zmean' zmg' zmb' zT' zX' zGN zF' zN' zl1 zK1 zhL'; (try dsimp only); (try k_fold))
  k_with "ks_enter" => (refine' enter_at ?q8a ?q8d ?q8e ?q8f ?q8g ?q8h ?q8i ?_ ?q8j ?q8k ?q8b ?q8c; (case q8g => assumption); (case q8a => assumption); (case q8e => k_is); (case q8f => k_is); (case q8d => decide); (case q8h => first | exact BindsTo.of_eq rfl | exact binds_K (Gd.here (by assumption)).X rfl (by k_is) rfl rfl rfl); (case q8j => decide); (case q8i => exact locs rfl); (case q8k => exact rfl); (case q8b => exact rfl); (case q8c => exact rfl); k_whole; rintro zg' zL' zh' zp' zl' zmean' zmg' zmb' zT' zX' zGN zF' zN' zl1 zK1 zhL'; (try dsimp only))
  k_with "callWith ref" => (k_here; (with_reducible show wpAny _ _ (callWith _ (Value.ref _) [] (backTo _ (starEach [] _)) []) _ _ _); k_dflt (refine' callWith_B0 ?q9a ?q9b ?q9c ?_; (case q9a => k_asm); (case q9b => k_mem); (case q9c => first | exact .inl rfl | exact .inr rfl)))
  k_with "getAttr ref" => (k_here; (with_reducible show wpAny _ _ (getAttr (Value.ref _) _ _) _ _ _); k_dflt (refine' get_ownA ?q10d ?q10e ?q10f ?q10l ?q10m ?q10n ?q10g ?q10h ?q10i ?q10j ?q10k ?_; (case q10d => k_asm); (case q10e => k_asm); (case q10f => (refine' acc_inst ?q10a ?q10b ?q10c; (case q10a => k_asm); (case q10b => k_mem); (case q10c => k_mem))); (case q10l => k_is); (case q10m => k_is); (case q10n => k_is); (case q10g => k_is); (case q10h => k_is); (case q10i => k_is); (case q10j => first | assumption | k_get); (case q10k => k_handed); k_whole))
  trivial
section
variable {w : World} {s : Shared} {A : Around} {E : Value → Shared → Prop} {h₀ : Heap} {a n : Nat} {P : Nat → Value → Prop}
theorem join_now {Q : Value → Shared → Prop} {t : Tok} {texts : List PySem.Str} (G : GenNow w A h₀ a texts.length P s) (hval : ∀ i v, P i v → ∃ y t, texts[i]? = some y ∧ v = .str y t) (hok : JoinOk "" texts = true) (hsz : texts.length ≤ sizeLine)
    (hQ : ∀ h' gs' tk t', (∀ b o, h₀.get? b ≠ none → s.heap.get? b = some o → h'.get? b = some o) → (AllBare s.gens → AllBare gs') → Q (.str (Txt.join "" texts) t') { s with heap := h', gens := gs', toks := tk }) :
    wpAny (model P0 w) A (call (.builtin "str.join") [.str "" t, .ref a]) Q E s := by
  obtain ⟨fp, wr, Gn, St, W, hst, hfp, hI, hT, hwr, hb⟩ := G
  refine SC.joinGen W.in4_2 hT hst hfp hI (fun i v h => ?_) (fun s' l hm hl => ?_) hsz
  · obtain ⟨y, t, _, e⟩ := hval i v h
    exact ⟨y, t, e⟩
  · have e : l.map (·.1) = texts := by
      apply List.ext_getElem?
      intro i
      have h1 : (strValues l).toArray.size = texts.length := hl.1
      by_cases hi : i < texts.length
      · have hi' : i < l.length := by simpa [strValues] using (h1 ▸ hi : i < (strValues l).toArray.size)
        have h2 : (strValues l).toArray[i]? = some (.str l[i].1 l[i].2) := by simp [strValues, hi']
        obtain ⟨y, t, e1, e2⟩ := hval i _ (hl.2 i _ h2)
        injection e2 with e3 e4
        rw [e1, List.getElem?_map, List.getElem?_eq_getElem hi']
        simp [e3]
      · have hi' : ¬ i < l.length := by
          intro q; apply hi
          have : (strValues l).toArray.size = l.length := by simp [strValues]
          omega
        rw [List.getElem?_eq_none (by simpa using Nat.le_of_not_lt hi'), List.getElem?_eq_none (Nat.le_of_not_lt hi)]
    rw [e]
    refine ⟨hok, fun t' k => ?_⟩
    have : { s' with toks := k } = { s with heap := s'.heap, gens := s'.gens, toks := k } := by
      obtain ⟨h, gg, d, tk, os⟩ := s'
      have e1 := hm.drawn; have e2 := hm.os
      dsimp only at e1 e2
      subst e1; subst e2; rfl
    rw [this]
    exact hQ _ _ _ _ (fun b o n0 e => hm.heap b o (fun hw => n0 (hwr b hw)) e) (hb _ _ hm.gens)
end
noncomputable abbrev cat1 (p : PySem.Str × PySem.Str) : PySem.Str := p.1 ++ p.2
noncomputable abbrev catAll (ws : List (PySem.Str × PySem.Str)) : PySem.Str := Txt.join "" (ws.map cat1)
theorem joinOk_small (texts : List PySem.Str) (h : (texts.map (·.length)).sum ≤ 1000000) : JoinOk "" texts = true := by
  have z : ∀ (l : List PySem.Str) k, l.foldl (fun a x => a + x.length + (PySem.Str.ofString "").length) k = k + (l.map (·.length)).sum := by
    intro l
    induction l with
    | nil => intro k; simp
    | cons x l ih => intro k; rw [List.foldl_cons, ih]; simp; have : (PySem.Str.ofString "").length = 0 := rfl; omega
  unfold JoinOk
  rw [List.foldl_toArray, z]
  simp only [Nat.zero_add, PySem.Builtin.Str.tooLong, Bool.not_eq_true', decide_eq_false_iff_not]
  simp only [sizeLine]
  omega
section
theorem kw_B9_3 : True := by
  k_with "eval Name" => (refine stop ?_)
  k_with "newTuple" => (refine stop ?_)
  trivial
theorem str_elt {w : World} {g : Heap} {A' : Around} {E' : Value → Shared → Prop} {C L f : Addr} {code cd : Value} {s₂ : Shared} {m₂ : PySem.Str → Option Value} {p : PySem.Str × PySem.Str} {t1 t2 : Tok} {qn : PySem.Str} {sc : Scope} {p3 p4 p5 : Pos}
  (B : Bs w g) (X' : (Mine.hd.heap_39 w.params).In g) (F : Fr g C s₂.heap m₂) (l1 : (p.1.length : Int) < 1000000) (l2 : (p.2.length : Int) < 1000000) (ha : m₂ "fws" = some (.str p.1 t1)) (hb : m₂ "part" = some (.str p.2 t2)) :
  wpAny (model P0 w) A' (eval (.Call (.Attribute (.Name "EMPTYSTRING" ⟨123, 33, 123, 44⟩) "join" ⟨123, 33, 123, 49⟩) [.Tuple [.Name "fws" p3, .Name "part" p4] 0 p5] [] ⟨123, 33, 123, 62⟩) (genEnv { kind := .function, names := [(".0", .local), ("fws", .local), ("part", .local), ("EMPTYSTRING", .globalImplicit)], isGenerator := true, isCoroutine := false } [] C code builtinsNs (envX qn sc L f cd [])))
   (fun y s₃ => (∃ t, y = .str (p.1 ++ p.2) t) ∧ PySem.Keeps s₂ s₃) E' s₂ := by
  refine topE B.T fun {p' l' mean' mg' mb'} T' => ?_
  have N : News g C s₂.heap [] := fun p hp => by cases hp
  k_steps
  unfold Stop
  refine nameGen_K F X' T' (by k_is) ?_
  k_steps
  unfold Stop
  refine nameGen_L F ha ?_
  k_steps
  unfold Stop
  refine nameGen_L F hb ?_
  k_steps
  unfold Stop
  simp only [newTuple]
  refine wpAny_newObj_type ?_ (by size_fits)
  have N' := News.push F N (tupO [.str p.1 t1, .str p.2 t2])
  have F' := F.push (tupO [.str p.1 t1, .str p.2 t2])
  clear F N
  k_steps
  exact ⟨_, _, rfl, fun b o e => Heap.get?_push_of_some _ e⟩
end
theorem kw_B9_4 : True := by
  k_with_none
  k_with "execs cons" => ((with_reducible refine seq_cons fun zQ1 ztk zhQ1 => ?_); try dsimp only)
  k_with "k_inst" => (refine' acc_inst ?q2a ?q2b ?q2c; (case q2a => k_asm); (case q2b => k_mem); (case q2c => k_mem))
  k_with "getMethod ref" => (k_here; (with_reducible show wpAny _ _ (getMethod (Value.ref _) (PySem.Str.ofString "append") _) _ _ _); k_dflt (refine' method_bi ?q6a ?q6b ?q6c ?q6d ?q6h ?q6i ?q6e ?q6f ?q6g ?_; (case q6a => k_asm); (case q6b => k_asm); (case q6c => k_inst); (case q6d => k_is); (case q6h => kernel_rfl); (case q6i => k_is); (case q6e => k_is); (case q6f => kernel_rfl); (case q6g => first | assumption | k_get); k_whole))
  k_with "call builtin:list.append" => (k_here; (with_reducible show wpAny _ _ (call (Value.builtin _) [Value.ref _, _]) _ _ _); k_dflt (refine' append_acc ?q4a ?q4b ?q4c ?q4d ?q4e ?q4f ?_ ?q4g; (case q4a => k_asm); (case q4b => k_asm); (case q4c => k_asm); (case q4e => k_is); (case q4f => k_upd); (case q4d => k_mem); (case q4g => assumption); k_whole); intro zh' zF' zN'; (try k_sweep))
  k_with "ktr_enter" => (refine' enter_fn ?q7a ?q7d ?q7e ?q7f ?q7g ?q7h ?q7i ?_ ?q7j ?q7k ?q7b ?q7c; (case q7g => assumption); (case q7a => assumption); (case q7e => k_is); (case q7f => k_is); (case q7d => decide); (case q7h => first | exact BindsTo.of_eq rfl | exact binds_K (Gd.here (by assumption)).X rfl (by k_is) rfl rfl rfl); (case q7j => decide); (case q7i => exact locs rfl); (case q7k => exact rfl); (case q7b => exact rfl); (case q7c => exact rfl); k_whole; rintro zg' zL' zh' zp' zl' zmean' zmg' zmb' zT' zX' zGN zF' zN' zl1 zK1 zhL'; (try dsimp only); (try k_fold))
  k_with "ks_enter" => (refine' enter_at ?q8a ?q8d ?q8e ?q8f ?q8g ?q8h ?q8i ?_ ?q8j ?q8k ?q8b ?q8c; (case q8g => assumption); (case q8a => assumption); (case q8e => k_is); (case q8f => k_is); (case q8d => decide); (case q8h => first | exact BindsTo.of_eq rfl | exact binds_K (Gd.here (by assumption)).X rfl (by k_is) rfl rfl rfl); (case q8j => decide); (case q8i => exact locs rfl); (case q8k => exact rfl); (case q8b => exact rfl); (case q8c => exact rfl); k_whole; rintro zg' zL' zh' zp' zl' zmean' zmg' zmb' zT' zX' zGN zF' zN' zl1 zK1 zhL'; (try dsimp only))
  k_with "callWith ref" => (k_here; (with_reducible show wpAny _ _ (callWith _ (Value.ref _) [] (backTo _ (starEach [] _)) []) _ _ _); k_dflt (refine' callWith_B0 ?q9a ?q9b ?q9c ?_; (case q9a => k_asm); (case q9b => k_mem); (case q9c => first | exact .inl rfl | exact .inr rfl)))
  k_with "getAttr ref" => (k_here; (with_reducible show wpAny _ _ (getAttr (Value.ref _) _ _) _ _ _); k_dflt (refine' get_ownA ?q10d ?q10e ?q10f ?q10l ?q10m ?q10n ?q10g ?q10h ?q10i ?q10j ?q10k ?_; (case q10d => k_asm); (case q10e => k_asm); (case q10f => (refine' acc_inst ?q10a ?q10b ?q10c; (case q10a => k_asm); (case q10b => k_mem); (case q10c => k_mem))); (case q10l => k_is); (case q10m => k_is); (case q10n => k_is); (case q10g => k_is); (case q10h => k_is); (case q10i => k_is); (case q10j => first | assumption | k_get); (case q10k => k_handed); k_whole))
  trivial
section
variable {w : World} {s : Shared} {x dx : Addr} {items : Array Value} {n de : Nat} {es : List DictEntry} {Q E : Value → Shared → Prop} {oP : Obj} {t0 : Tok} {ws : List (PySem.Str × PySem.Str)}
theorem kw_B9_5 : True := by
  k_with "eval GeneratorExp" => (refine stop ?_)
  trivial
theorem str_spec (G : Gd w s.heap [x, dx, 169]) (hx : s.heap.get? x = some (accO dx items n)) (hd : s.heap.get? dx = some (dictOf es de)) (hP : s.heap.get? 169 = some oP) (hTP : TabO oP) (h200 : x ≠ 200) (hxP : @Ne Nat x 169) (hdP : @Ne Nat dx 169)
    (R : Rws s.heap items ws) (hT2 : ∀ T, .ref T ∈ items → T ≠ 169) (hbig : ws.length < 1000000 ∧ (∀ p ∈ ws, p.1.length < 1000000 ∧ p.2.length < 1000000) ∧ ((ws.map cat1).map (·.length)).sum ≤ 1000000)
    (hQ : ∀ h' gs' t tk o', KeepsBut [169] s.heap h' → h'.get? 169 = some o' → TabO o' → (AllBare s.gens → AllBare gs') → Q (.str (catAll ws) t) { s with heap := h', gens := gs', toks := tk }) :
    wpAny (model P0 w) (At 550 3500) (call (.ref 174) [.ref x]) Q E s := by
  have hn : ∀ p ∈ [(x, accO dx items n), (dx, dictOf es de), ((169 : Addr), oP)], s.heap.get? p.1 = some p.2 := by
    refine mem_all3 ?_ ?_ ?_ <;> assumption
  refine wpAny_call ?_
  k_dflt ktr_enter
  k_steps
  all_goals unfold Stop
  rename Gnd w s.heap _ _ => GN
  rename Fr _ _ _ _ => F
  rename News _ _ _ _ => N
  rename (Mine.hd.heap_39 w.params).In _ => X'
  obtain ⟨ps, hIC⟩ := ic169 (X'.keeps F.keep) (N (169, oP) (by k_mem)).1 hTP
  refine' gen_acc (Fo := fun p y => ∃ t, y = .str (cat1 p) t) (w := w) GN.bs F N ?a1 ?a2 ?a3 hxP hdP (R.keeps (‹Keeps s.heap _›)) hT2 hIC ?a4 ?a5 ?a6 ?a7 ?a8 ?a9 ?b1 ?b2 ?b3 ?b4 ?b5 ?b6 ?b7 ?c1 ?c2 ?c3
  case a1 => k_mem
  case a2 => k_mem
  case a3 => k_mem
  case a4 => k_is
  case a5 => k_is
  case a6 => rfl
  case a7 => rfl
  case a8 => rfl
  case a9 => decide
  case b1 => rfl
  case b2 => rfl
  case b3 => rfl
  case b4 => decide
  case b5 => rfl
  case b6 => exact Nat.le_of_ble_eq_true rfl
  case b7 => exact fun _ => rfl
  case c1 =>
    intro Q hQ
    k_steps
    exact hQ
  case c2 =>
    intro A' E' C code s₂ m₂ p t1 t2 hA' F2 ha hb hp
    exact str_elt GN.bs X' F2 (by have := (hbig.2.1 p hp).1; omega) (by have := (hbig.2.1 p hp).2; omega) ha hb
  case c3 =>
    intro a h' gs' tk ps' k' hI' hb' GNow
    obtain ⟨o', e', T'⟩ := isCode_tab hI'
    have F1 := fr_but F N (x := 169) (o := oP) (by k_mem) k'
    have N1 : News _ _ h' [(x, accO dx items n), (dx, dictOf es de), ((169 : Addr), o')] := news_but N (by k_upd) k' e'
    clear F N
    k_steps
    all_goals try dsimp only [List.cons_append, List.nil_append]
    refine join_now (texts := ws.map cat1) (P := fun j y => ∃ p, ws[j]? = some p ∧ ∃ t, y = .str (cat1 p) t) (by rw [List.length_map]; exact GNow.tok (by first | exact Nat.le_refl _ | exact Nat.le_succ _ | (dsimp only; omega))) ?_ (joinOk_small _ hbig.2.2) (by rw [List.length_map]; simp only [sizeLine]; omega) ?_
    · rintro i v ⟨p, hp, t, rfl⟩
      exact ⟨_, t, by rw [List.getElem?_map, hp]; rfl, rfl⟩
    · intro h2 gs2 tk2 t2 k2 b2
      refine hQ h2 gs2 t2 tk2 o' ?_ ?_ T' (fun z => b2 (hb' z))
      · intro b o nb e
        have e1 := (‹Keeps s.heap _›) b o e
        exact k2 b o (by dsimp only; rw [e1]; simp) (k' b o nb e1)
      · have e1 := (‹Keeps s.heap _›) _ _ hP
        exact k2 169 o' (by dsimp only; rw [e1]; simp) e'
end
end
section
noncomputable abbrev listO (items : Array Value) (n : Nat := 0) : Obj := { cls := .type "list", data := .seq items n }
section
variable {w : World} {s : Shared} {A : Around} {E : Value → Shared → Prop} {x dx : Addr} {items : Array Value} {n : Nat} {odx : Obj} {K : Frag}
theorem callSpecial_acc {name : PySem.Str} {id : String} {args : List Value} {Q : Option Value → Shared → Prop} {od : Option Obj} {ox : Obj} (X : K.In s.heap) (I : InstAt s.heap x ox 200 od) (hf : findIn K (.ref 200) name = some (some (.builtin id)))
    (hb : bindSpecial (.builtin id) (.ref x) = pure (.builtin id, [.ref x])) (h : wpAny (model P0 w) A (call (.builtin id) (.ref x :: args)) (fun v => Q (some v)) E s) : wpAny (model P0 w) A (callSpecial? (.ref x) name args) Q E s := by
  unfold callSpecial? specialOf
  refine wpAny_bind (wpAny_bind (I.type.here ((looks_findIn X hf).here ?_)))
  dsimp only
  rw [hb]
  exact wpAny_holding (wpAny_bind (wpAny_pure (wpAny_bind (wpAny_mono h (fun v s' h' => wpAny_pure h') fun _ _ h' => h'))))
theorem seqKey_acc {k : Value} {name : PySem.Str} {Q : Value → Shared → Prop} {od : Option Obj} {ox : Obj} (X : K.In s.heap) (I : InstAt s.heap x ox 200 od) (hdq : mroIn K 200 (.type "collections.deque") = some false) (h : Q k s) :
    wpAny (model P0 w) A (sequenceKey (.ref x) k name) Q E s := by
  unfold sequenceKey
  refine wpAny_bind (I.type.here ?_)
  dsimp only
  have L : Looks (model P0 w) s.heap (seqItemTypes.anyM fun n => isSubtype (.ref 200) (.type n)) false := by
    show Looks _ _ (isSubtype (.ref 200) (.type "collections.deque") >>= _) false
    exact (looks_mroIn X hdq).andThen .now
  refine wpAny_bind (L.here ?_)
  exact wpAny_pure h
/-- the parts of a slice of a list -/
theorem slice_parts {sl : Addr} {vl vu : Value} {lo hi : Option Int} {Q : Value × Value × Value → Shared → Prop} (hs : s.heap.IsSliceOf sl vl vu .none) (pl : IsPart vl lo) (pu : IsPart vu hi) (h : Q (rawPart lo, rawPart hi, .none) s) :
    wpAny (model P0 w) A (Builtin.List.listSliceParts (.ref sl)) Q E s := by
  obtain ⟨os, hos, hcs, hds⟩ := id hs
  rw [listSliceParts_eq]
  refine wpAny_bind (wpAny_field hos hds (x := .none) rfl (wpAny_bind (wpAny_listPart .none ?_)))
  rw [if_neg (show ¬ ((rawPart none == rawInt 0) = true) from Bool.false_ne_true)]
  refine wpAny_bind (wpAny_field hos hds (x := vl) rfl (wpAny_bind (wpAny_listPart pl ?_)))
  exact wpAny_bind (wpAny_field hos hds (x := vu) rfl (wpAny_bind (wpAny_listPart pu (wpAny_pure h))))
theorem not_index {sl : Addr} {vl vu vs : Value} {Q : Option Int → Shared → Prop} (hs : s.heap.IsSliceOf sl vl vu vs) (h : Q none s) : wpAny (model P0 w) A (Builtin.List.listSubscript? (.ref sl)) Q E s := by
  obtain ⟨os, hos, hcs, hds⟩ := id hs
  unfold Builtin.List.listSubscript?
  refine wpAny_bind (wpAny_specialOf (T := "slice") ⟨os, hos, hcs⟩ slice_no_index ?_)
  simp only [Option.isNone_none, if_true]
  exact wpAny_pure h
theorem getItem_acc {sl : Addr} {vl vu : Value} {lo hi : Option Int} {Q : Value → Shared → Prop} (X : K.In s.heap) (I : InstAt s.heap x (accO dx items n) 200 (some odx)) (hm : mroIn K 200 (.type "list") = some true) (hdq : mroIn K 200 (.type "collections.deque") = some false)
    (hf : findIn K (.ref 200) "__getitem__" = some (some (.builtin "list.__getitem__"))) (hs : s.heap.IsSliceOf sl vl vu .none) (pl : IsPart vl lo) (pu : IsPart vu hi) (hsz : items.size ≤ sizeLine)
    (h : Q (.ref s.heap.objs.size) { s with heap := s.heap.push (listO (slicePick items lo hi none)) }) : wpAny (model P0 w) A (getItem (.ref x) (.ref sl)) Q E s := by
  obtain ⟨os, hos, hcs, hds⟩ := id hs
  unfold getItem
  refine wpAny_holding (wpAny_bind (seqKey_acc X I hdq ?_))
  refine wpAny_bind (callSpecial_acc X I hf (slot_list_getitem.bind _) ?_)
  refine call_bi (owner := "list") (n := "__getitem__") slot_list_getitem.plain (by decide +kernel) (by decide +kernel) (acc_isList X I hm) entry_list_getitem (args_list_getitem _ _) ?_
  show wpAny _ _ (Builtin.List.listSubscript? (.ref sl) >>= _) _ _ s
  refine wpAny_bind (not_index hs ?_)
  show wpAny _ _ (typeOf (.ref sl) >>= _) _ _ s
  refine wpAny_bind (wpAny_typeOf (T := "slice") ⟨os, hos, hcs⟩ ?_)
  rw [if_neg (by decide)]
  refine wpAny_bind (slice_parts hs pl pu ?_)
  refine wpAny_bind (m := Builtin.List.listItems (.ref x)) ?_
  unfold Builtin.List.listItems
  refine wpAny_bind (wpAny_seqItems I.at_ rfl (wpAny_pure ?_))
  refine wpAny_bind (wpAny_of_eq (sliceIndices_raw lo hi none items.size (by simp)) ?_)
  exact wpAny_bind (wpAny_newObj_type (wpAny_pure ⟨_, rfl, wpAny_pure h⟩) (Nat.le_trans (slicePick_size_le items lo hi none) hsz))
theorem subTail_acc {value slice : Expr} {i : Value} {Q : Value → Shared → Prop} (X : K.In s.heap) (I : InstAt s.heap x (accO dx items n) 200 (some odx))
    (hf : findIn K (.ref 200) "__getitem__" = some (some (.builtin "list.__getitem__"))) (h : wpAny (model P0 w) A (getItem (.ref x) i) Q E s)
    (hs : subscripted slice false (.ref x) i = operate [.ref x, i] (getItem (.ref x) i) ∨ subscripted slice false (.ref x) i = operate [i, .ref x] (getItem (.ref x) i)) (ht : ∀ r, letTemporaryGo value (.ref x) r = pure ()) :
    wpAny (model P0 w) A (subscriptTail value slice (.ref x) i) Q E s := by
  unfold subscriptTail getitemInPython specialOf
  refine wpAny_bind (wpAny_bind (wpAny_bind (I.type.here ((looks_findIn X hf).here (wpAny_pure ?_)))))
  refine wpAny_bind ?_
  rcases hs with hs | hs <;> rw [hs] <;> exact wpAny_operating (wpAny_mono h (fun r s₃ h₃ => wpAny_bind (wpAny_of_eq (ht r) (wpAny_pure h₃))) fun _ _ x => x)
theorem list_items {a : Addr} {o : Obj} {xs : Array Value} {k : Nat} {Q : Array Value → Shared → Prop} (ho : s.heap.get? a = some o) (hd : o.data = .seq xs k) (h : Q xs s) : wpAny (model P0 w) A (Builtin.List.listItems (.ref a)) Q E s := by
  unfold Builtin.List.listItems
  exact wpAny_bind (wpAny_seqItems ho hd (wpAny_pure h))
theorem setItem_acc {sl r : Addr} {vl vu : Value} {lo hi : Option Int} {new : Array Value} {nr : Nat} {ys : Array Value} {Q : Unit → Shared → Prop} (X : K.In s.heap) (I : InstAt s.heap x (accO dx items n) 200 (some odx)) (hm : mroIn K 200 (.type "list") = some true) (hdq : mroIn K 200 (.type "collections.deque") = some false)
    (hf : findIn K (.ref 200) "__setitem__" = some (some (.builtin "list.__setitem__"))) (hs : s.heap.IsSliceOf sl vl vu .none) (pl : IsPart vl lo) (pu : IsPart vu hi) (hr : s.heap.get? r = some (listO new nr)) (hxr : x ≠ r) (hsz : items.size + new.size ≤ sizeLine)
    (hy : items.extract 0 (sliceBounds lo hi none items.size).1.toNat ++ new ++ items.extract (max (sliceBounds lo hi none items.size).1 (sliceBounds lo hi none items.size).2.1).toNat items.size = ys) (hyz : ys.size ≤ sizeLine)
    (h : ∀ h' n', KeepsBut [x] s.heap h' → h'.get? x = some (accO dx ys n') → Q () { s with heap := h' }) : wpAny (model P0 w) A (setItem (.ref x) (.ref sl) (.ref r)) Q E s := by
  obtain ⟨os, hos, hcs, hds⟩ := id hs
  unfold setItem
  refine wpAny_holding (wpAny_bind (seqKey_acc X I hdq ?_))
  refine wpAny_bind (callSpecial_acc X I hf (slot_list_setitem.bind _) ?_)
  refine call_bi_slot (owner := "list") (n := "__setitem__") slot_list_setitem.plain (by decide +kernel) (by decide +kernel) (acc_isList X I hm) entry_list_setitem (args_list_setitem _ _ _) ?_
  show wpAny _ _ (Builtin.List.listSubscript? (.ref sl) >>= _) _ _ s
  refine wpAny_bind (not_index hs ?_)
  show wpAny _ _ (typeOf (.ref sl) >>= _) _ _ s
  refine wpAny_bind (wpAny_typeOf (T := "slice") ⟨os, hos, hcs⟩ ?_)
  rw [if_neg (by decide)]
  refine wpAny_bind (slice_parts hs pl pu ?_)
  dsimp only
  rw [show Builtin.List.listSameRef (.ref x) (.ref r) = false from by simp [Builtin.List.listSameRef, hxr], if_neg (by decide)]
  refine wpAny_bind ?_
  unfold Builtin.List.listAllItems
  refine wpAny_bind (wpAny_typeOf (T := "list") ⟨_, hr, rfl⟩ ?_)
  rw [if_pos (by decide)]
  have hd : (accO dx items n).data = .seq items n := rfl
  refine list_items hr rfl ?_
  refine wpAny_bind (list_items I.at_ hd ?_)
  refine wpAny_bind (wpAny_of_eq (sliceIndices_raw lo hi none items.size (by simp)) ?_)
  rw [if_pos (by rfl)]
  refine wpAny_bind (wpAny_rule ?_)
  rw [show Builtin.List.listTooLong (items.size + new.size) = false from decide_eq_false (by omega), if_neg (by decide)]
  unfold Builtin.List.listUpdate
  dsimp only
  refine wpAny_bind (wpAny_updateSeq I.at_ hd ?_ (by omega) (by rw [hy]; omega))
  refine wpAny_bind (wpAny_letGo (wpAny_bind (wpAny_pure (wpAny_pure ⟨_, rfl, wpAny_pure ?_⟩))))
  refine h _ (if ys.size == items.size then n else n + 1) (fun b o nb e => ?_) ?_
  · exact (Heap.get?_update_other _ _ (fun q : x = b => nb (by simp [q]))).trans e
  · rw [Heap.get?_update_self _ I.at_ (by rw [mapSeq_acc]; rfl), mapSeq_acc, hy]
end
end
section
theorem kw_B11_1 : True := by
  k_with_none
  k_with "execs cons" => ((with_reducible refine seq_cons fun zQ1 ztk zhQ1 => ?_); try dsimp only)
  trivial
theorem pick_last (its : Array Value) (v : Value) : slicePick (its.push v) (some (its.size : Int)) none none = #[v] := by
  unfold slicePick sliceBounds
  simp only [Option.getD_none]
  rw [if_neg (show ¬ ((its.size : Int) < 0) by omega), if_pos (by decide)]
  have e1 : max 0 (min (its.size : Int) ((its.push v).size : Nat)) = (its.size : Nat) := by simp; omega
  rw [e1, if_pos (by decide), sliceRange_one]
  simp
theorem cut_last (its : Array Value) (v : Value) : (its.push v).extract 0 (sliceBounds (some (its.size : Int)) none none (its.push v).size).1.toNat ++ #[] ++ (its.push v).extract (max (sliceBounds (some (its.size : Int)) none none (its.push v).size).1 (sliceBounds (some (its.size : Int)) none none (its.push v).size).2.1).toNat (its.push v).size = its := by
  have e1 : (sliceBounds (some (its.size : Int)) none none (its.push v).size).1 = (its.size : Int) := by
    unfold sliceBounds
    simp only [Option.getD_none]
    rw [if_neg (show ¬ ((its.size : Int) < 0) by omega), if_pos (by decide)]
    simp; omega
  have e2 : (sliceBounds (some (its.size : Int)) none none (its.push v).size).2.1 = ((its.push v).size : Int) := rfl
  rw [e1, e2]
  have e3 : (max (its.size : Int) ((its.push v).size : Int)).toNat = its.size + 1 := by simp; omega
  rw [e3]
  apply Array.ext'
  simp [List.take_append]
theorem cut_all (xs new : Array Value) : xs.extract 0 (sliceBounds none none none xs.size).1.toNat ++ new ++ xs.extract (max (sliceBounds none none none xs.size).1 (sliceBounds none none none xs.size).2.1).toNat xs.size = new := by
  have e1 : (sliceBounds none none none xs.size).1 = 0 := rfl
  have e2 : (sliceBounds none none none xs.size).2.1 = (xs.size : Int) := rfl
  rw [e1, e2]
  have e3 : (max (0 : Int) (xs.size : Int)).toNat = xs.size := by omega
  rw [e3]
  apply Array.ext'
  simp
theorem fillB11 (w : World) (h : Heap) (X : (Mine.hd.heap_39 w.params).In h) (e : PySem.Challenge.rw_wu0089_01.foot = PySem.Challenge.rw_wu0089_01.foot) : True := by
  revert X e; k_fill; intro _ _; trivial

theorem kw_B11_2 : True := by
  k_with "k_inst" => (refine' acc_inst ?q2a ?q2b ?q2c; (case q2a => k_asm); (case q2b => k_mem); (case q2c => k_mem))
  k_with "getMethod ref" => (k_here; (with_reducible show wpAny _ _ (getMethod (Value.ref _) (PySem.Str.ofString "append") _) _ _ _); k_dflt (refine' method_bi ?q6a ?q6b ?q6c ?q6d ?q6h ?q6i ?q6e ?q6f ?q6g ?_; (case q6a => k_asm); (case q6b => k_asm); (case q6c => k_inst); (case q6d => k_is); (case q6h => kernel_rfl); (case q6i => k_is); (case q6e => k_is); (case q6f => kernel_rfl); (case q6g => first | assumption | k_get); k_whole))
  k_with "call builtin:list.append" => (k_here; (with_reducible show wpAny _ _ (call (Value.builtin _) [Value.ref _, _]) _ _ _); k_dflt (refine' append_acc ?q4a ?q4b ?q4c ?q4d ?q4e ?q4f ?_ ?q4g; (case q4a => k_asm); (case q4b => k_asm); (case q4c => k_asm); (case q4e => k_is); (case q4f => k_upd); (case q4d => k_mem); (case q4g => assumption); k_whole); intro zh' zF' zN'; (try k_sweep))
  k_with "ktr_enter" => (refine' enter_fn ?q7a ?q7d ?q7e ?q7f ?q7g ?q7h ?q7i ?_ ?q7j ?q7k ?q7b ?q7c; (case q7g => assumption); (case q7a => assumption); (case q7e => k_is); (case q7f => k_is); (case q7d => decide); (case q7h => first | exact BindsTo.of_eq rfl | exact binds_K (Gd.here (by assumption)).X rfl (by k_is) rfl rfl rfl); (case q7j => decide); (case q7i => exact locs rfl); (case q7k => exact rfl); (case q7b => exact rfl); (case q7c => exact rfl); k_whole; rintro zg' zL' zh' zp' zl' zmean' zmg' zmb' zT' zX' zGN zF' zN' zl1 zK1 zhL'; (try dsimp only); (try k_fold))
  k_with "ks_enter" => (refine' enter_at ?q8a ?q8d ?q8e ?q8f ?q8g ?q8h ?q8i ?_ ?q8j ?q8k ?q8b ?q8c; (case q8g => assumption); (case q8a => assumption); (case q8e => k_is); (case q8f => k_is); (case q8d => decide); (case q8h => first | exact BindsTo.of_eq rfl | exact binds_K (Gd.here (by assumption)).X rfl (by k_is) rfl rfl rfl); (case q8j => decide); (case q8i => exact locs rfl); (case q8k => exact rfl); (case q8b => exact rfl); (case q8c => exact rfl); k_whole; rintro zg' zL' zh' zp' zl' zmean' zmg' zmb' zT' zX' zGN zF' zN' zl1 zK1 zhL'; (try dsimp only))
  k_with "callWith ref" => (k_here; (with_reducible show wpAny _ _ (callWith _ (Value.ref _) [] (backTo _ (starEach [] _)) []) _ _ _); k_dflt (refine' callWith_B0 ?q9a ?q9b ?q9c ?_; (case q9a => k_asm); (case q9b => k_mem); (case q9c => first | exact .inl rfl | exact .inr rfl)))
  k_with "getAttr ref" => (k_here; (with_reducible show wpAny _ _ (getAttr (Value.ref _) _ _) _ _ _); k_dflt (refine' get_ownA ?q10d ?q10e ?q10f ?q10l ?q10m ?q10n ?q10g ?q10h ?q10i ?q10j ?q10k ?_; (case q10d => k_asm); (case q10e => k_asm); (case q10f => (refine' acc_inst ?q10a ?q10b ?q10c; (case q10a => k_asm); (case q10b => k_mem); (case q10c => k_mem))); (case q10l => k_is); (case q10m => k_is); (case q10n => k_is); (case q10g => k_is); (case q10h => k_is); (case q10i => k_is); (case q10j => first | assumption | k_get); (case q10k => k_handed); k_whole))
  trivial
noncomputable def Stop2 (P : Prop) : Prop := P
theorem stop2 {P : Prop} (h : Stop2 P) : P := h
section
variable {w : World} {s : Shared} {x dx r : Addr} {items its : Array Value} {v : Value} {n de nr : Nat} {es : List DictEntry} {Q E : Value → Shared → Prop} {t0 ti : Tok}
theorem pop_from_spec (G : Gd w s.heap [x, dx]) (hx : s.heap.get? x = some (accO dx (its.push v) n)) (hd : s.heap.get? dx = some (dictOf es de)) (hne : @Ne Nat x dx) (h200 : x ≠ 200) (hsz : (its.push v).size ≤ sizeLine)
    (hQ : ∀ h' q n' tk, KeepsBut [x] s.heap h' → h'.get? x = some (accO dx its n') → h'.get? q = some (listO #[v]) → s.heap.get? q = none → Q (.ref q) { s with heap := h', toks := tk }) :
    wpAny (model P0 w) (At 550 3500) (call (.ref 152) [.ref x, .int its.size ti]) Q E s := by
  have hn := mem2 hx hd
  refine wpAny_call ?_
  k_dflt ktr_enter
  k_steps
  rename Fr _ _ _ _ => F
  rename News _ _ _ _ => N
  rename (Mine.hd.heap_39 w.params).In _ => X'
  have q0 : @LT.lt Nat _ _ _ := F.ns.lt
  have F1 := F.push { cls := .type "slice", data := .fields #[.int its.size ti, .none, .none] }
  have N1 := News.push F N { cls := .type "slice", data := .fields #[.int its.size ti, .none, .none] }
  refine subTail_acc (X'.keeps F1.keep) (acc_inst N1 (by k_mem) (by k_mem)) (by k_is) (getItem_acc (X'.keeps F1.keep) (acc_inst N1 (by k_mem) (by k_mem)) (by k_is) (by k_is) (by k_is) (Heap.IsSliceOf.new ..) (.int _ _) .none hsz ?_) (.inr rfl) (fun _ => rfl)
  rw [pick_last]
  have q1 : @LT.lt Nat _ _ _ := F1.ns.lt
  have F2 := F1.push (listO #[v])
  have N2 := News.push F1 N1 (listO #[v])
  clear F N F1 N1
  k_steps
  rename Fr _ _ _ _ => F3
  rename News _ _ _ _ => N3
  have q3 : @LT.lt Nat _ _ _ := F3.ns.lt
  have F4 := F3.push { cls := .type "slice", data := .fields #[.int its.size ti, .none, .none] }
  have N4 := News.push F3 N3 { cls := .type "slice", data := .fields #[.int its.size ti, .none, .none] }
  have m1 := N4 (_, listO #[]) (.tail _ (.head _))
  refine setItem_acc (X'.keeps F4.keep) (acc_inst N4 (by k_mem) (by k_mem)) (by k_is) (by k_is) (by k_is) (Heap.IsSliceOf.new ..) (.int _ _) .none m1.1 (by k_ne) (by simpa using hsz) (cut_last its v) (by simp at hsz; omega) (fun h' n' k e => ?_)
  have F5 := fr_but F4 N4 (x := x) (o := accO dx (its.push v) n) (by k_mem) k
  have N5 := news_but N4 (by k_upd) k e
  clear F3 N3 F4 N4 m1
  k_steps
  rename News _ _ _ _ => N
  rename Gnd w s.heap _ _ => GN
  rename Fr _ _ _ _ => F
  have z := N (_, listO #[v]) (by k_mem)
  refine hQ _ _ _ _ (gnd_but GN F.keep (by
    refine mem_all2 ?_ ?_
    · exact .inl (.head _)
    · exact .inr ⟨hd, (N _ (by k_mem)).1⟩)) (N (x, _) (by k_mem)).1 z.1 (GN.fresh _ z.2.2 ?_)
  simp only [List.map_cons, List.map_nil, List.mem_cons, List.not_mem_nil, or_false]; rintro (q | q) <;> exact absurd q (by k_ne)
end
end
section
open Builtin.ObjectAttr
theorem kw_B12_1 : True := by
  k_with_none
  k_with "execs cons" => ((with_reducible refine seq_cons fun zQ1 ztk zhQ1 => ?_); try dsimp only)
  trivial
theorem fillB12 (w : World) (h : Heap) (X : (Mine.hd.heap_39 w.params).In h) (e : PySem.Challenge.rw_wu0089_01.foot = PySem.Challenge.rw_wu0089_01.foot) : True := by
  revert X e; k_fill; intro _ _; trivial

theorem kw_B12_2 : True := by
  k_with "k_inst" => (refine' acc_inst ?q2a ?q2b ?q2c; (case q2a => k_asm); (case q2b => k_mem); (case q2c => k_mem))
  k_with "getMethod ref" => (k_here; (with_reducible show wpAny _ _ (getMethod (Value.ref _) (PySem.Str.ofString "append") _) _ _ _); k_dflt (refine' method_bi ?q6a ?q6b ?q6c ?q6d ?q6h ?q6i ?q6e ?q6f ?q6g ?_; (case q6a => k_asm); (case q6b => k_asm); (case q6c => k_inst); (case q6d => k_is); (case q6h => kernel_rfl); (case q6i => k_is); (case q6e => k_is); (case q6f => kernel_rfl); (case q6g => first | assumption | k_get); k_whole))
  k_with "call builtin:list.append" => (k_here; (with_reducible show wpAny _ _ (call (Value.builtin _) [Value.ref _, _]) _ _ _); k_dflt (refine' append_acc ?q4a ?q4b ?q4c ?q4d ?q4e ?q4f ?_ ?q4g; (case q4a => k_asm); (case q4b => k_asm); (case q4c => k_asm); (case q4e => k_is); (case q4f => k_upd); (case q4d => k_mem); (case q4g => assumption); k_whole); intro zh' zF' zN'; (try k_sweep))
  k_with "ktr_enter" => (refine' enter_fn ?q7a ?q7d ?q7e ?q7f ?q7g ?q7h ?q7i ?_ ?q7j ?q7k ?q7b ?q7c; (case q7g => assumption); (case q7a => assumption); (case q7e => k_is); (case q7f => k_is); (case q7d => decide); (case q7h => first | exact BindsTo.of_eq rfl | exact binds_K (Gd.here (by assumption)).X rfl (by k_is) rfl rfl rfl); (case q7j => decide); (case q7i => exact locs rfl); (case q7k => exact rfl); (case q7b => exact rfl); (case q7c => exact rfl); k_whole; rintro zg' zL' zh' zp' zl' zmean' zmg' zmb' zT' zX' zGN zF' zN' zl1 zK1 zhL'; (try dsimp only); (try k_fold))
  k_with "ks_enter" => (refine' enter_at ?q8a ?q8d ?q8e ?q8f ?q8g ?q8h ?q8i ?_ ?q8j ?q8k ?q8b ?q8c; (case q8g => assumption); (case q8a => assumption); (case q8e => k_is); (case q8f => k_is); (case q8d => decide); (case q8h => first | exact BindsTo.of_eq rfl | exact binds_K (Gd.here (by assumption)).X rfl (by k_is) rfl rfl rfl); (case q8j => decide); (case q8i => exact locs rfl); (case q8k => exact rfl); (case q8b => exact rfl); (case q8c => exact rfl); k_whole; rintro zg' zL' zh' zp' zl' zmean' zmg' zmb' zT' zX' zGN zF' zN' zl1 zK1 zhL'; (try dsimp only))
  k_with "callWith ref" => (k_here; (with_reducible show wpAny _ _ (callWith _ (Value.ref _) [] (backTo _ (starEach [] _)) []) _ _ _); k_dflt (refine' callWith_B0 ?q9a ?q9b ?q9c ?_; (case q9a => k_asm); (case q9b => k_mem); (case q9c => first | exact .inl rfl | exact .inr rfl)))
  k_with "getAttr ref" => (k_here; (with_reducible show wpAny _ _ (getAttr (Value.ref _) _ _) _ _ _); k_dflt (refine' get_ownA ?q10d ?q10e ?q10f ?q10l ?q10m ?q10n ?q10g ?q10h ?q10i ?q10j ?q10k ?_; (case q10d => k_asm); (case q10e => k_asm); (case q10f => (refine' acc_inst ?q10a ?q10b ?q10c; (case q10a => k_asm); (case q10b => k_mem); (case q10c => k_mem))); (case q10l => k_is); (case q10m => k_is); (case q10n => k_is); (case q10g => k_is); (case q10h => k_is); (case q10i => k_is); (case q10j => first | assumption | k_get); (case q10k => k_handed); k_whole))
  trivial
noncomputable abbrev es1 (hs : Int) (tk t : Tok) : List DictEntry := [⟨hs, .str "_initial_size" tk, .int 0 t⟩]
theorem passes_list (self : Value) : refuseLoop self "__setattr__" [.type "list", .type "object"] = pure () := by kernel_rfl
section
variable {w : World} {A : Around} {E : Value → Shared → Prop} {s : Shared} {K : Frag} {x dx : Addr} {items : Array Value} {n de : Nat} {hs : Int} {tk0 t0 t : Tok} {cd : ClassData} {Q : Unit → Shared → Prop}
theorem setIni_acc (X : K.In s.heap) (I : InstAt s.heap x (accO dx items n) 200 (some (dictOf (es1 hs tk0 t0) de))) (hs' : findIn K (.ref 200) "__setattr__" = some (some (.builtin "object.__setattr__"))) (hcl : clsIn K 200 = some cd)
    (hmro : cd.mro = [.ref 200, .type "list", .type "object"]) (hdct : cd.hasDict = true) (hob : mroIn K 200 (.type "object") = some true) (ha : findIn K (.ref 200) "_initial_size" = some none)
    (h : ∀ h' tk, KeepsBut [dx] s.heap h' → h'.get? dx = some (dictOf (es1 hs tk0 t) de) → Q () { s with heap := h', toks := tk }) : wpAny (model P0 w) A (setAttr (.ref x) "_initial_size" (.int 0 t)) Q E s := by
  have SF := PySem.F.store_object
  refine set_plain X I hs' ?_
  refine codeAny_call_builtin SF.slot.plain SF.entry (@check_slot (model P0 w) _ _ { s with toks := s.toks + 1 } "object.__setattr__" "object" "__setattr__" (.ref x) _ [] _ SF.kind SF.split (I.type.andThen (looks_mroIn X hob)) (SF.args (.ref x) _ _) ?_)
  rw [osa_eq, refuse_eq]
  have hm : Looks (model P0 w) s.heap (mroOf (.ref 200)) cd.mro := (looks_clsIn X hcl).andThen .now
  refine wpAny_bind (wpAny_bind (Looks.here (s := { s with toks := s.toks + 1 }) I.type (wpAny_bind (Looks.here (s := { s with toks := s.toks + 1 }) hm ?_))))
  rw [hmro, refuseLoop_ref, passes_list]
  refine wpAny_pure (wpAny_bind (Looks.here (s := { s with toks := s.toks + 1 }) I.type (wpAny_bind (Looks.here (s := { s with toks := s.toks + 1 }) (looks_findIn X ha) (wpAny_bind (wpAny_pure ?_))))))
  have D := I.dict
  dsimp only at D
  refine wpAny_bind (wpAny_pure (wpAny_bind (wpAny_bind (wpAny_loadPart I.at_ (wpAny_bind (Looks.here (s := { s with toks := s.toks + 1 }) (looks_clsIn X hcl) ?_))))))
  rw [hdct]
  refine wpAny_pure (a := some dx) (wpAny_bind (wpAny_pure (wpAny_bind ?_)))
  unfold nsSet
  refine wpAny_bind (wpAny_bind (wpAny_askSetting (wpAny_pure (wpAny_bind (wpAny_mkText (wpAny_bind (wpAny_loadPart D ?_)))))))
  dsimp only
  have cf : aRefKeyMayBeTheName "_initial_size" (es1 hs tk0 t0).toArray = false := by rw [aRefKeyMayBeTheName_at, ← Array.any_toList, ← Array.any_toList]; rfl
  rw [cf, if_neg (by decide)]
  have pe : ∀ hh kk, Obj.putName "_initial_size" hh kk (.int 0 t) (dictOf (es1 hs tk0 t0) de) = dictOf (es1 hs tk0 t) de := fun hh kk => by rw [putName_dict]; rfl
  refine wpAny_updatePart D ?_
  have D2 : (s.heap.update dx (Obj.putName "_initial_size" (PyData.keyHash w.params "_initial_size") (.str "_initial_size" (s.toks + 1)) (.int 0 t))).get? dx = some (dictOf (es1 hs tk0 t) de) := by
    rw [Heap.get?_update_self _ D (by rw [pe]; rfl), pe]
  refine wpAny_bind (wpAny_lookBehind D2 (pastItsLine_dict (by simp [sizeLine_eq])) ?_)
  exact wpAny_pure (h _ _ (fun b o nb e => (Heap.get?_update_other _ _ (fun q : dx = b => nb (by simp [q]))).trans e) D2)
end
section
variable {w : World} {s : Shared} {x dx r : Addr} {items its : Array Value} {v : Value} {n de nr : Nat} {hs : Int} {Q E : Value → Shared → Prop} {t0 tk0 ti : Tok}
theorem reset_spec (G : Gd w s.heap [x, dx, r]) (hx : s.heap.get? x = some (accO dx items n)) (hd : s.heap.get? dx = some (dictOf (es1 hs tk0 t0) de)) (hr : s.heap.get? r = some (listO #[v] nr)) (hne : @Ne Nat x dx) (hxr : @Ne Nat x r) (hdr : @Ne Nat dx r) (h200 : x ≠ 200) (hsz : items.size + 1 ≤ sizeLine)
    (hQ : ∀ h' n' t' tk, KeepsBut [x, dx] s.heap h' → h'.get? x = some (accO dx #[v] n') → h'.get? dx = some (dictOf (es1 hs tk0 t') de) → Q .none { s with heap := h', toks := tk }) :
    wpAny (model P0 w) (At 550 3500) (call (.ref 182) [.ref x, .ref r]) Q E s := by
  have hn : ∀ p ∈ [(x, accO dx items n), (dx, dictOf (es1 hs tk0 t0) de), (r, listO #[v] nr)], s.heap.get? p.1 = some p.2 := by
    refine mem_all3 ?_ ?_ ?_ <;> assumption
  refine wpAny_call ?_
  k_dflt ktr_enter
  k_steps
  have X' := (‹(Mine.hd.heap_39 w.params).In _›)
  have F3 := (‹Fr _ _ _ _›)
  have N3 := (‹News _ _ _ _›)
  have q3 : @LT.lt Nat _ _ _ := F3.ns.lt
  have F4 := F3.push { cls := .type "slice", data := .fields #[.none, .none, .none] }
  have N4 := News.push F3 N3 { cls := .type "slice", data := .fields #[.none, .none, .none] }
  refine setItem_acc (X'.keeps F4.keep) (acc_inst N4 (by k_mem) (by k_mem)) (by k_is) (by k_is) (by k_is) (Heap.IsSliceOf.new ..) .none .none (N4 (r, listO #[v] nr) (by k_mem)).1 (by k_ne) (by simpa using hsz) (cut_all items #[v]) (by simp [sizeLine]) (fun h' n' k e => ?_)
  have F5 := fr_but F4 N4 (x := x) (o := accO dx items n) (by k_mem) k
  have N5 := news_but N4 (by k_upd) k e
  clear F3 N3 F4 N4
  k_steps
  have F7 := (‹Fr _ _ _ _›)
  have N7 := (‹News _ _ _ _›)
  refine setIni_acc (X'.keeps F7.keep) (acc_inst N7 (by k_mem) (by k_mem)) (by k_is) (by k_is) rfl rfl (by k_is) (by k_is) (fun h2 tk2 k2 e2 => ?_)
  have F8 := fr_but F7 N7 (x := dx) (o := dictOf (es1 hs tk0 t0) de) (by k_mem) k2
  have N8 := news_but N7 (by k_upd) k2 e2
  clear F7 N7 F5 N5
  k_steps
  have N := (‹News _ _ _ _›)
  have GN := (‹Gnd w s.heap _ _›)
  have F := (‹Fr _ _ _ _›)
  refine hQ _ _ _ _ (gnd_but GN F.keep (by
    refine mem_all3 ?_ ?_ ?_
    · exact .inl (.head _)
    · exact .inl (.tail _ (.head _))
    · exact .inr ⟨hr, (N _ (by k_mem)).1⟩)) (N (x, _) (by k_mem)).1 (N (dx, _) (by k_mem)).1
theorem reset0_spec (G : Gd w s.heap [x, dx]) (hx : s.heap.get? x = some (accO dx items n)) (hd : s.heap.get? dx = some (dictOf (es1 hs tk0 t0) de)) (hne : @Ne Nat x dx) (h200 : x ≠ 200) (hsz : items.size + 1 ≤ sizeLine)
    (hQ : ∀ h' n' t' tk, KeepsBut [x, dx] s.heap h' → h'.get? x = some (accO dx #[] n') → h'.get? dx = some (dictOf (es1 hs tk0 t') de) → Q .none { s with heap := h', toks := tk }) :
    wpAny (model P0 w) (At 550 3500) (call (.ref 182) [.ref x]) Q E s := by
  have hn := mem2 hx hd
  refine wpAny_call ?_
  k_dflt ktr_enter
  k_steps
  have X' := (‹(Mine.hd.heap_39 w.params).In _›)
  have F3 := (‹Fr _ _ _ _›)
  have N3 := (‹News _ _ _ _›)
  have q3 : @LT.lt Nat _ _ _ := F3.ns.lt
  have F4 := F3.push { cls := .type "slice", data := .fields #[.none, .none, .none] }
  have N4 := News.push F3 N3 { cls := .type "slice", data := .fields #[.none, .none, .none] }
  have m1 := N4 (_, listO #[]) (.tail _ (.head _))
  refine setItem_acc (X'.keeps F4.keep) (acc_inst N4 (by k_mem) (by k_mem)) (by k_is) (by k_is) (by k_is) (Heap.IsSliceOf.new ..) .none .none m1.1 (by k_ne) (by simp; omega) (cut_all items #[]) (by simp [sizeLine]) (fun h' n' k e => ?_)
  have F5 := fr_but F4 N4 (x := x) (o := accO dx items n) (by k_mem) k
  have N5 := news_but N4 (by k_upd) k e
  clear F3 N3 F4 N4 m1
  k_steps
  have F7 := (‹Fr _ _ _ _›)
  have N7 := (‹News _ _ _ _›)
  refine setIni_acc (X'.keeps F7.keep) (acc_inst N7 (by k_mem) (by k_mem)) (by k_is) (by k_is) rfl rfl (by k_is) (by k_is) (fun h2 tk2 k2 e2 => ?_)
  have F8 := fr_but F7 N7 (x := dx) (o := dictOf (es1 hs tk0 t0) de) (by k_mem) k2
  have N8 := news_but N7 (by k_upd) k2 e2
  clear F7 N7 F5 N5
  k_steps
  have N := (‹News _ _ _ _›)
  have GN := (‹Gnd w s.heap _ _›)
  have F := (‹Fr _ _ _ _›)
  refine hQ _ _ _ _ (gnd_but GN F.keep (by
    refine mem_all2 ?_ ?_
    · exact .inl (.head _)
    · exact .inl (.tail _ (.head _)))) (N (x, _) (by k_mem)).1 (N (dx, _) (by k_mem)).1
end
end
section
theorem kw_B13_1 : True := by
  k_with_none
  k_with "execs cons" => ((with_reducible refine seq_cons fun zQ1 ztk zhQ1 => ?_); try dsimp only)
  trivial
theorem gdN {w : World} {h₀ h : Heap} {L : Addr} {m : PySem.Str → Option Value} {news : List (Addr × Obj)} (B : Bs w h₀) (F : Fr h₀ L h m) (N : News h₀ L h news) {S : List Addr} (n : ∀ a ∈ S, ∃ o, (a, o) ∈ news) : Gd w h S :=
  Gd.of B F.keep fun a ha => let ⟨_, ho⟩ := n a ha; (N _ ho).2.2
theorem all1 {a : Addr} {p : Addr → Prop} (h : p a) : ∀ x ∈ [a], p x := fun x hx => by simp only [List.mem_cons, List.not_mem_nil, or_false] at hx; rcases hx with rfl; assumption
theorem all2 {a b : Addr} {p : Addr → Prop} (h : p a) (h2 : p b) : ∀ x ∈ [a, b], p x := fun x hx => by simp only [List.mem_cons, List.not_mem_nil, or_false] at hx; rcases hx with rfl | rfl <;> assumption
theorem all3 {a b c : Addr} {p : Addr → Prop} (h : p a) (h2 : p b) (h3 : p c) : ∀ x ∈ [a, b, c], p x := fun x hx => by simp only [List.mem_cons, List.not_mem_nil, or_false] at hx; rcases hx with rfl | rfl | rfl <;> assumption
theorem Rws.but {h h' : Heap} {items : Array Value} {ws : List (PySem.Str × PySem.Str)} {S : List Addr} (R : Rws h items ws) (k : KeepsBut S h h') (n : ∀ T, .ref T ∈ items → T ∉ S) : Rws h' items ws :=
  ⟨R.size, fun i p e => let ⟨T, t1, t2, a, b⟩ := R.at_ i p e; ⟨T, t1, t2, a, k _ _ (n T (by obtain ⟨hh, q⟩ := Array.getElem?_eq_some_iff.mp a; rw [← q]; exact Array.getElem_mem hh)) b⟩⟩
structure Sep (x dx : Addr) : Prop where
  ne : @Ne Nat x dx
  c : @Ne Nat x 200
  xp : @Ne Nat x 162
  dp : @Ne Nat dx 162
  xs : @Ne Nat x 169
  ds : @Ne Nat dx 169
section
variable {w : World} {s : Shared} {A : Around} {E : Value → Shared → Prop} {g : Heap} {L : Addr} {m : PySem.Str → Option Value} {news : List (Addr × Obj)} {x dx r : Addr} {items its : Array Value} {n de nr : Nat} {hs : Int} {tk0 t0 ti : Tok} {Q : Value → Shared → Prop} {oP : Obj} {ws : List (PySem.Str × PySem.Str)} {v f : Value}
noncomputable def Small (ws : List (PySem.Str × PySem.Str)) : Prop := ws.length < 1000000 ∧ (∀ p ∈ ws, p.1.length < 1000000 ∧ p.2.length < 1000000) ∧ ((ws.map cat1).map (·.length)).sum ≤ 1000000
theorem len_W (S : Sep x dx) (hTP : TabO oP) (hsm : Small ws) (B : Bs w g) (F : Fr g L s.heap m) (N : News g L s.heap news) (hx : (x, accO dx items n) ∈ news) (hd : (dx, dictOf (es1 hs tk0 t0) de) ∈ news) (hP : ((162 : Addr), oP) ∈ news) (R : Rws s.heap items ws) (hT2 : ∀ T, .ref T ∈ items → T ≠ 162) (hA : Le A (At 550 3500))
    (h : ∀ h' gs' t tk o', Fr g L h' m → KeepsBut [162] s.heap h' → h'.get? 162 = some o' → TabO o' → (AllBare s.gens → AllBare gs') → Q (.int (ws.map wlen).sum t) { s with heap := h', gens := gs', toks := tk }) :
    wpAny (model P0 w) A (call (.ref 167) [.ref x]) Q E s :=
  at_le hA (len_spec (es := es1 hs tk0 t0) (gdN B F N (all3 ⟨_, hx⟩ ⟨_, hd⟩ ⟨_, hP⟩)) (N _ hx).1 (N _ hd).1 (N _ hP).1 hTP S.ne S.c S.xp S.dp rfl R hT2 ⟨hsm.1, hsm.2.1⟩ fun h' gs' t tk o' k e T b => h h' gs' t tk o' (fr_but F N hP k) k e T b)
theorem str_W (S : Sep x dx) (hTP : TabO oP) (hsm : Small ws) (B : Bs w g) (F : Fr g L s.heap m) (N : News g L s.heap news) (hx : (x, accO dx items n) ∈ news) (hd : (dx, dictOf (es1 hs tk0 t0) de) ∈ news) (hP : ((169 : Addr), oP) ∈ news) (R : Rws s.heap items ws) (hT2 : ∀ T, .ref T ∈ items → T ≠ 169) (hA : Le A (At 550 3500))
    (h : ∀ h' gs' t tk o', Fr g L h' m → KeepsBut [169] s.heap h' → h'.get? 169 = some o' → TabO o' → (AllBare s.gens → AllBare gs') → Q (.str (catAll ws) t) { s with heap := h', gens := gs', toks := tk }) :
    wpAny (model P0 w) A (call (.ref 174) [.ref x]) Q E s :=
  at_le hA (str_spec (es := es1 hs tk0 t0) (gdN B F N (all3 ⟨_, hx⟩ ⟨_, hd⟩ ⟨_, hP⟩)) (N _ hx).1 (N _ hd).1 (N _ hP).1 hTP S.c S.xs S.ds R hT2 hsm fun h' gs' t tk o' k e T b => h h' gs' t tk o' (fr_but F N hP k) k e T b)
theorem push_W (S : Sep x dx) (B : Bs w g) (F : Fr g L s.heap m) (N : News g L s.heap news) (hd : (dx, dictOf (es1 hs tk0 t0) de) ∈ news) (hx : (x, accO dx items n) ∈ news) (hsz : items.size ≤ sizeLine) (hA : Le A (At 500 3000))
    (h : ∀ h' t tk, Fr g L h' m → KeepsBut [x] s.heap h' → h'.get? x = some (accO dx (items.push (.ref t)) (n + 1)) → h'.get? t = some (tupO [f, v]) → s.heap.get? t = none → Q .none { s with heap := h', toks := tk }) :
    wpAny (model P0 w) A (call (.ref 144) [.ref x, f, v]) Q E s :=
  at_le hA (push_spec (tv := 0) (es := es1 hs tk0 t0) (gdN B F N (all2 ⟨_, hx⟩ ⟨_, hd⟩)) (N _ hx).1 (N _ hd).1 rfl S.ne hsz fun h' t tk k e et nt => h h' t tk (fr_but F N hx k) k e et nt)
theorem push_codeW {R : Result → Shared → Prop} (S : Sep x dx) (B : Bs w g) (F : Fr g L s.heap m) (N : News g L s.heap news) (hd : (dx, dictOf (es1 hs tk0 t0) de) ∈ news) (hx : (x, accO dx items n) ∈ news) (hsz : items.size ≤ sizeLine) (hA : Le A (At 500 3000))
    (h : ∀ h' t tk, Fr g L h' m → KeepsBut [x] s.heap h' → h'.get? x = some (accO dx (items.push (.ref t)) (n + 1)) → h'.get? t = some (tupO [f, v]) → s.heap.get? t = none → R (.ok (.ret .none)) { s with heap := h', toks := tk }) :
    codeAny (model P0 w) A (.call (.ref 144) ⟨[.ref x, f, v], []⟩) R s :=
  at_le_code hA (codeAny_mono (push_code (tv := 0) (Q := fun v s' => R (.ok (.ret v)) s') (E := fun _ _ => False) (es := es1 hs tk0 t0) (gdN B F N (all2 ⟨_, hx⟩ ⟨_, hd⟩)) (N _ hx).1 (N _ hd).1 rfl S.ne hsz fun h' t tk k e et nt => h h' t tk (fr_but F N hx k) k e et nt) fun r s' z => by rcases r with e | (v | _ | _ | _) <;> first | exact z | exact z.elim)
theorem pop_W (S : Sep x dx) (B : Bs w g) (F : Fr g L s.heap m) (N : News g L s.heap news) (hd : (dx, dictOf (es1 hs tk0 t0) de) ∈ news) (hx : (x, accO dx (its.push v) n) ∈ news) (hsz : (its.push v).size ≤ sizeLine) (hA : Le A (At 540 3400))
    (h : ∀ h' tk, Fr g L h' m → KeepsBut [x] s.heap h' → h'.get? x = some (accO dx its (n + 1)) → Q v { s with heap := h', toks := tk }) :
    wpAny (model P0 w) A (call (.ref 160) [.ref x]) Q E s :=
  at_le hA (pop_spec (es := es1 hs tk0 t0) (gdN B F N (all2 ⟨_, hx⟩ ⟨_, hd⟩)) (N _ hx).1 (N _ hd).1 S.ne S.c hsz rfl fun h' tk k e => h h' tk (fr_but F N hx k) k e)
theorem pop0_W (S : Sep x dx) (B : Bs w g) (F : Fr g L s.heap m) (N : News g L s.heap news) (hd : (dx, dictOf (es1 hs tk0 t0) de) ∈ news) (hx : (x, accO dx #[] n) ∈ news) (hA : Le A (At 540 3400))
    (h : ∀ h' t t1 t2 tk, Fr g L h' m → Keeps s.heap h' → s.heap.get? t = none → h'.get? t = some (tupO [.str "" t1, .str "" t2]) → Q (.ref t) { s with heap := h', toks := tk }) :
    wpAny (model P0 w) A (call (.ref 160) [.ref x]) Q E s :=
  at_le hA (pop_none_spec (es := es1 hs tk0 t0) (gdN B F N (all2 ⟨_, hx⟩ ⟨_, hd⟩)) (N _ hx).1 (N _ hd).1 S.ne S.c rfl fun h' t t1 t2 tk k e nt => h h' t t1 t2 tk (fr_keeps F k) k e nt)
theorem popfrom_W (S : Sep x dx) (B : Bs w g) (F : Fr g L s.heap m) (N : News g L s.heap news) (hd : (dx, dictOf (es1 hs tk0 t0) de) ∈ news) (hx : (x, accO dx (its.push v) n) ∈ news) (hsz : (its.push v).size ≤ sizeLine) (hA : Le A (At 550 3500))
    (h : ∀ h' q n' tk, Fr g L h' m → KeepsBut [x] s.heap h' → h'.get? x = some (accO dx its n') → h'.get? q = some (listO #[v]) → s.heap.get? q = none → Q (.ref q) { s with heap := h', toks := tk }) :
    wpAny (model P0 w) A (call (.ref 152) [.ref x, .int its.size ti]) Q E s :=
  at_le hA (pop_from_spec (gdN B F N (all2 ⟨_, hx⟩ ⟨_, hd⟩)) (N _ hx).1 (N _ hd).1 S.ne S.c hsz fun h' q n' tk k e e2 nq => h h' q n' tk (fr_but F N hx k) k e e2 nq)
theorem fr_but2 {h h' : Heap} {a b : Addr} {oa ob : Obj} (F : Fr g L h m) (N : News g L h news) (ha : (a, oa) ∈ news) (hb : (b, ob) ∈ news) (k : KeepsBut [a, b] h h') : Fr g L h' m := by
  have za := N _ ha
  have zb := N _ hb
  refine ⟨?_, fun b' o' e => k _ _ (fun q => ?_) (F.keep b' o' e), F.above⟩
  · obtain ⟨oL, es, ep, hL, r⟩ := F.ns
    refine ⟨oL, es, ep, k _ _ (fun q => ?_) hL, r⟩
    simp only [List.mem_cons, List.not_mem_nil, or_false] at q
    rcases q with q | q
    · exact za.2.1 q.symm
    · exact zb.2.1 q.symm
  · simp only [List.mem_cons, List.not_mem_nil, or_false] at q
    rcases q with rfl | rfl
    · rw [za.2.2] at e; cases e
    · rw [zb.2.2] at e; cases e
theorem reset_W (S : Sep x dx) (B : Bs w g) (F : Fr g L s.heap m) (N : News g L s.heap news) (hd : (dx, dictOf (es1 hs tk0 t0) de) ∈ news) (hx : (x, accO dx items n) ∈ news) (hr : (r, listO #[v] nr) ∈ news) (hxr : @Ne Nat x r) (hdr : @Ne Nat dx r) (hsz : items.size + 1 ≤ sizeLine) (hA : Le A (At 550 3500))
    (h : ∀ h' n' t' tk, Fr g L h' m → KeepsBut [x, dx] s.heap h' → h'.get? x = some (accO dx #[v] n') → h'.get? dx = some (dictOf (es1 hs tk0 t') de) → Q .none { s with heap := h', toks := tk }) :
    wpAny (model P0 w) A (call (.ref 182) [.ref x, .ref r]) Q E s :=
  at_le hA (reset_spec (gdN B F N (all3 ⟨_, hx⟩ ⟨_, hd⟩ ⟨_, hr⟩)) (N _ hx).1 (N _ hd).1 (N _ hr).1 S.ne hxr hdr S.c hsz fun h' n' t' tk k e e2 => h h' n' t' tk (fr_but2 F N hx hd k) k e e2)
theorem reset0_W (S : Sep x dx) (B : Bs w g) (F : Fr g L s.heap m) (N : News g L s.heap news) (hd : (dx, dictOf (es1 hs tk0 t0) de) ∈ news) (hx : (x, accO dx items n) ∈ news) (hsz : items.size + 1 ≤ sizeLine) (hA : Le A (At 550 3500))
    (h : ∀ h' n' t' tk, Fr g L h' m → KeepsBut [x, dx] s.heap h' → h'.get? x = some (accO dx #[] n') → h'.get? dx = some (dictOf (es1 hs tk0 t') de) → Q .none { s with heap := h', toks := tk }) :
    wpAny (model P0 w) A (call (.ref 182) [.ref x]) Q E s :=
  at_le hA (reset0_spec (gdN B F N (all2 ⟨_, hx⟩ ⟨_, hd⟩)) (N _ hx).1 (N _ hd).1 S.ne S.c hsz fun h' n' t' tk k e e2 => h h' n' t' tk (fr_but2 F N hx hd k) k e e2)
theorem news_but2 {h h' : Heap} {a b : Addr} {oa ob oa' ob' : Obj} {news1 news2 : List (Addr × Obj)} (N : News g L h news) (U1 : Upd a oa oa' news news1) (U2 : Upd b ob ob' news1 news2) (hab : @Ne Nat a b) (k : KeepsBut [a, b] h h') (ea : h'.get? a = some oa') (eb : h'.get? b = some ob') : News g L h' news2 := by
  have one : ∀ p ∈ news, p.1 ≠ a → p.1 ≠ b → h'.get? p.1 = some p.2 ∧ p.1 ≠ L ∧ g.get? p.1 = none := fun p hp n1 n2 =>
    ⟨k _ _ (fun q => by simp only [List.mem_cons, List.not_mem_nil, or_false] at q; rcases q with q | q; exact n1 q; exact n2 q) (N p hp).1, (N p hp).2⟩
  have za := N _ (upd_mem U1)
  obtain ⟨pre, post, rfl, e1, n1, n2⟩ := U1.split
  have st1 : ∀ p ∈ news1, p.1 = a ∧ p.2 = oa' ∨ (p ∈ pre ++ (a, oa) :: post ∧ p.1 ≠ a) := by
    intro p hp
    rw [e1] at hp
    rcases List.mem_append.mp hp with hp | hp
    · exact .inr ⟨List.mem_append.mpr (.inl hp), n1 p hp⟩
    · rcases List.mem_cons.mp hp with rfl | hp
      · exact .inl ⟨rfl, rfl⟩
      · exact .inr ⟨List.mem_append.mpr (.inr (.tail _ hp)), n2 p hp⟩
  have zb := upd_mem U2
  have zb' : (b, ob) ∈ pre ++ (a, oa) :: post := by
    rcases st1 _ zb with ⟨q, _⟩ | ⟨q, _⟩
    · exact absurd q.symm hab
    · exact q
  obtain ⟨pre2, post2, e2, rfl, n3, n4⟩ := U2.split
  have rest : ∀ p ∈ news1, p.1 ≠ b → h'.get? p.1 = some p.2 ∧ p.1 ≠ L ∧ g.get? p.1 = none := by
    intro p hp nb
    rcases st1 p hp with ⟨q1, q2⟩ | ⟨q1, q2⟩
    · rw [q1, q2]; exact ⟨ea, za.2⟩
    · exact one p q1 q2 nb
  intro p hp
  rcases List.mem_append.mp hp with hp | hp
  · exact rest p (e2 ▸ List.mem_append.mpr (.inl hp)) (n3 p hp)
  · rcases List.mem_cons.mp hp with rfl | hp
    · exact ⟨eb, (N _ zb').2⟩
    · exact rest p (e2 ▸ List.mem_append.mpr (.inr (.tail _ hp))) (n4 p hp)
end
theorem fillB13 (w : World) (h : Heap) (X : (Mine.hd.heap_39 w.params).In h) (e : PySem.Challenge.rw_wu0089_01.foot = PySem.Challenge.rw_wu0089_01.foot) : True := by
  revert X e; k_fill; intro _ _; trivial

theorem kw_B13_2 : True := by
  k_with "k_inst" => (refine' acc_inst ?q2a ?q2b ?q2c; (case q2a => k_asm); (case q2b => k_mem); (case q2c => k_mem))
  k_with "getMethod ref" => (k_here; (with_reducible show wpAny _ _ (getMethod (Value.ref _) (PySem.Str.ofString "append") _) _ _ _); k_dflt (refine' method_bi ?q6a ?q6b ?q6c ?q6d ?q6h ?q6i ?q6e ?q6f ?q6g ?_; (case q6a => k_asm); (case q6b => k_asm); (case q6c => k_inst); (case q6d => k_is); (case q6h => kernel_rfl); (case q6i => k_is); (case q6e => k_is); (case q6f => kernel_rfl); (case q6g => first | assumption | k_get); k_whole))
  k_with "call builtin:list.append" => (k_here; (with_reducible show wpAny _ _ (call (Value.builtin _) [Value.ref _, _]) _ _ _); k_dflt (refine' append_acc ?q4a ?q4b ?q4c ?q4d ?q4e ?q4f ?_ ?q4g; (case q4a => k_asm); (case q4b => k_asm); (case q4c => k_asm); (case q4e => k_is); (case q4f => k_upd); (case q4d => k_mem); (case q4g => assumption); k_whole); intro zh' zF' zN'; (try k_sweep))
  k_with "ktr_enter" => (refine' enter_fn ?q7a ?q7d ?q7e ?q7f ?q7g ?q7h ?q7i ?_ ?q7j ?q7k ?q7b ?q7c; (case q7g => assumption); (case q7a => assumption); (case q7e => k_is); (case q7f => k_is); (case q7d => decide); (case q7h => first | exact BindsTo.of_eq rfl | exact binds_K (Gd.here (by assumption)).X rfl (by k_is) rfl rfl rfl); (case q7j => decide); (case q7i => exact locs rfl); (case q7k => exact rfl); (case q7b => exact rfl); (case q7c => exact rfl); k_whole; rintro zg' zL' zh' zp' zl' zmean' zmg' zmb' zT' zX' zGN zF' zN' zl1 zK1 zhL'; (try dsimp only); (try k_fold))
  k_with "ks_enter" => (refine' enter_at ?q8a ?q8d ?q8e ?q8f ?q8g ?q8h ?q8i ?_ ?q8j ?q8k ?q8b ?q8c; (case q8g => assumption); (case q8a => assumption); (case q8e => k_is); (case q8f => k_is); (case q8d => decide); (case q8h => first | exact BindsTo.of_eq rfl | exact binds_K (Gd.here (by assumption)).X rfl (by k_is) rfl rfl rfl); (case q8j => decide); (case q8i => exact locs rfl); (case q8k => exact rfl); (case q8b => exact rfl); (case q8c => exact rfl); k_whole; rintro zg' zL' zh' zp' zl' zmean' zmg' zmb' zT' zX' zGN zF' zN' zl1 zK1 zhL'; (try dsimp only))
  k_with "callWith ref" => (k_here; (with_reducible show wpAny _ _ (callWith _ (Value.ref _) [] (backTo _ (starEach [] _)) []) _ _ _); k_dflt (refine' callWith_B0 ?q9a ?q9b ?q9c ?_; (case q9a => k_asm); (case q9b => k_mem); (case q9c => first | exact .inl rfl | exact .inr rfl)))
  k_with "getAttr ref" => (k_here; (with_reducible show wpAny _ _ (getAttr (Value.ref _) _ _) _ _ _); k_dflt (refine' get_ownA ?q10d ?q10e ?q10f ?q10l ?q10m ?q10n ?q10g ?q10h ?q10i ?q10j ?q10k ?_; (case q10d => k_asm); (case q10e => k_asm); (case q10f => (refine' acc_inst ?q10a ?q10b ?q10c; (case q10a => k_asm); (case q10b => k_mem); (case q10c => k_mem))); (case q10l => k_is); (case q10m => k_is); (case q10n => k_is); (case q10g => k_is); (case q10h => k_is); (case q10i => k_is); (case q10j => first | assumption | k_get); (case q10k => k_handed); k_whole))
  k_with "getMethod ref" => (k_here; (with_reducible show wpAny _ _ (getMethod (Value.ref _) _ _) _ _ _); k_dflt (refine' method_fnA ?q13a ?q13b ?q13c ?q13d ?q13h ?q13i ?q13e ?q13f ?q13g ?_; (case q13a => k_asm); (case q13b => k_asm); (case q13c => k_inst); (case q13d => k_is); (case q13h => kernel_rfl); (case q13i => k_is); (case q13e => k_is); (case q13f => k_is); (case q13g => first | assumption | k_get); k_whole))
  trivial
section
variable {w : World} {A : Around} {E : Value → Shared → Prop} {s : Shared} {K : Frag} {x C f : Addr} {ox : Obj} {od : Option Obj}
theorem truthy_len {Q : Bool → Shared → Prop} (X : K.In s.heap) (I : InstAt s.heap x ox C od) (hb : findIn K (.ref C) "__bool__" = some none) (hs : findIn K (.ref C) "__len__" = some (some (.ref f))) (hf : isFn K (.ref f) = true)
    (h : wpAny (model P0 w) A.in1 (call (.ref f) [.ref x]) (fun v s' => ∃ n t, v = .int n t ∧ (0 ≤ n ∧ n < 2 ^ 63) ∧ Q (n != 0) { s' with toks := s'.toks + 1 }) (fun _ _ => False) s) : wpAny (model P0 w) A (truthy (.ref x)) Q E s := by
  unfold truthy
  refine wpAny_bind (m := callSpecial? (.ref x) (PySem.Str.ofString "__bool__")) (wpAny_bind (wpAny_bind (I.type.here ((looks_findIn X hb).here (wpAny_pure ?_)))))
  refine wpAny_bind (wpAny_bind (I.type.here ((looks_findIn X hs).here ?_)))
  show wpAny _ _ (if (some (Value.ref f)).isNone = true then _ else _) _ _ _
  rw [if_neg (by simp)]
  refine wpAny_bind (wpAny_runValue (codeAny_builtin entry_len ?_))
  rw [Around.under_plainId plain_len]
  unfold Builtin.«len»
  refine wpAny_bind (m := oneArg "len" _) (wpAny_pure ?_)
  refine wpAny_bind (m := callSpecial? (.ref x) (PySem.Str.ofString "__len__")) (special_fn X I hs (beq_iff_eq.mp hf) (wpAny_mono h (fun r s' hr => ?_) fun _ _ y => y.elim))
  obtain ⟨n, t, rfl, ⟨h0, h1⟩, hq⟩ := hr
  refine wpAny_bind (wpAny_holding (wpAny_pure ?_))
  refine wpAny_bind (wpAny_letGo ?_)
  show wpAny _ _ (if n < 0 then _ else _) _ _ _
  rw [if_neg (by omega)]
  show wpAny _ _ (if n ≥ 2 ^ 63 then _ else _) _ _ _
  rw [if_neg (by omega)]
  exact wpAny_bind (wpAny_mkInt (wpAny_pure (wpAny_pure hq)))
end
section
variable {w : World} {s : Shared} {x dx : Addr} {items : Array Value} {n de : Nat} {hs : Int} {tk0 t0 : Tok} {Q E : Value → Shared → Prop} {oP oS : Obj} {ws : List (PySem.Str × PySem.Str)}
theorem kw_B13_3 : True := by
  k_with "call ref" => (k_here; (with_reducible show wpAny _ _ (call (Value.ref _) [Value.ref _]) _ _ _); refine stop ?_)
  k_with "truthy ref" => (k_here; k_dflt (refine' truthy_len ?q21b ?q21a ?q21c ?q21e ?q21d ?_; (case q21b => k_in); (case q21a => k_inst); (case q21c => k_is); (case q21e => k_is); (case q21d => k_is); k_whole))
  trivial
theorem onlyws_spec (S : Sep x dx) (hTP : TabO oP) (hTS : TabO oS) (hsm : Small ws) (G : Gd w s.heap [x, dx, 162, 169]) (hx : s.heap.get? x = some (accO dx items n)) (hd : s.heap.get? dx = some (dictOf (es1 hs tk0 t0) de)) (hP : s.heap.get? 162 = some oP) (hS : s.heap.get? 169 = some oS)
    (R : Rws s.heap items ws) (hT : ∀ T, .ref T ∈ items → T ∉ [x, dx, 162, 169]) (hpos : 0 < (ws.map wlen).sum) (hns : Txt.isspace (catAll ws) = false)
    (hQ : ∀ h' gs' tk o1 o2, KeepsBut [162, 169] s.heap h' → h'.get? 162 = some o1 → TabO o1 → h'.get? 169 = some o2 → TabO o2 → (AllBare s.gens → AllBare gs') → Q (.bool false) { s with heap := h', gens := gs', toks := tk }) :
    wpAny (model P0 w) (At 520 3200) (call (.ref 189) [.ref x]) Q E s := by
  have hne := S.ne; have h200 := S.c; have hxP := S.xp; have hdP := S.dp; have hxS := S.xs; have hdS := S.ds
  have hn : ∀ p ∈ [(x, accO dx items n), (dx, dictOf (es1 hs tk0 t0) de), ((162 : Addr), oP), ((169 : Addr), oS)], s.heap.get? p.1 = some p.2 := by
    refine mem_all4 ?_ ?_ ?_ ?_ <;> assumption
  refine wpAny_call ?_
  k_dflt ktr_enter
  k_steps
  unfold Stop
  rename Gnd w s.heap _ _ => GN
  rename Fr _ _ _ _ => F
  rename News _ _ _ _ => N
  have Rg := R.but (GN.kb _ (Keeps.refl _)) hT
  refine len_W S hTP hsm GN.bs F N (by k_mem) (by k_mem) (by k_mem) (Rg.keeps F.keep) (fun T h e => hT T h (by rw [e]; simp)) (le_at rfl rfl rfl) (fun h' gs' t tk o' F1 k e T' b => ?_)
  refine ⟨_, _, rfl, ⟨Int.le_of_lt hpos, by have := (sum_small ws hsm.2.1).2; have := hsm.1; omega⟩, ?_⟩
  rw [show ((ws.map wlen).sum != 0) = true from by simp; omega]
  have N1 := news_but N (by k_upd) k e
  clear F N
  k_steps
  unfold Stop
  refine str_W S hTS hsm GN.bs F1 N1 (by k_mem) (by k_mem) (by k_mem) (Rg.keeps F1.keep) (fun T h e => hT T h (by rw [e]; simp)) (le_at rfl rfl rfl) (fun h2 gs2 t2 tk2 o2 F2 k2 e2 T2 b2 => ?_)
  have N2 := news_but N1 (by k_upd) k2 e2
  clear F1 N1
  dsimp only [StrBack]
  k_steps
  rw [hns]
  rename Fr _ _ _ _ => F
  rename News _ _ _ _ => N
  refine hQ h2 gs2 _ _ _ (gnd_but GN F.keep ?_) (N (162, _) (by k_mem)).1 T' (N (169, _) (by k_mem)).1 T2 (fun z => b2 (b z))
  refine mem_all4 ?_ ?_ ?_ ?_
  · exact .inr ⟨hx, (N _ (by k_mem)).1⟩
  · exact .inr ⟨hd, (N _ (by k_mem)).1⟩
  · exact .inl (.head _)
  · exact .inl (.tail _ (.head _))
end
end
section
section
variable {w : World} {s : Shared} {A : Around} {R : Result → Shared → Prop}
theorem list_new_code (X : (Mine.hd.heap_39 w.params).In s.heap) (h : R (.ok (.ret (.ref (s.heap.objs.size + 1)))) { s with heap := (s.heap.push (dictOf [] 0)).push (accO s.heap.objs.size #[] 0) }) :
    codeAny (model P0 w) A (.call (.builtin "list.__new__") ⟨[.ref 200], []⟩) R s := by
  have c1 : Looks (model P0 w) s.heap (checkBuiltinCall "list.__new__" ⟨[.ref 200], []⟩) () := Looks.of_peek X (by kernel_rfl)
  have c2 : Looks (model P0 w) s.heap (isType (.ref 200)) true := Looks.of_peek X (by kernel_rfl)
  have c3 : Looks (model P0 w) s.heap (isSubtype (.ref 200) (.type "list")) true := Looks.of_peek X (by kernel_rfl)
  refine codeAny_of_tree ?_
  show wpAny _ A.in1 (do checkBuiltinCall "list.__new__" ⟨[.ref 200], []⟩; again (.builtin "list.__new__" ⟨[.ref 200], []⟩)) _ _ s
  refine wpAny_bind (c1.here (wpAny_pure ⟨plainId_quiet F.plain_list_new _, codeAny_builtin_stack F.entry_list_new rfl fun p st => ?_⟩))
  rw [Around.under_plainId F.plain_list_new _]
  have hown := owner_list_new
  obtain ⟨hp, g, d, tk, os⟩ := s
  simp only [hown]
  refine wpAny_bind (c2.at ?_)
  rw [if_neg (by decide)]
  refine wpAny_bind (c3.at ?_)
  rw [if_neg (by decide)]
  refine wpAny_bind (wpAny_pure ?_)
  rw [if_neg (by decide)]
  have hC : hp.get? 200 ≠ none := by rw [X 200 _ rfl]; simp
  refine wpAny_bind ?_
  unfold newDict
  refine wpAny_newObj_type ?_
  dsimp only
  refine wpAny_bind ?_
  show wpAny _ _ (newObjAsIs _ _ _) _ _ _
  obtain ⟨oc, od, cd, sl, hC2, e2⟩ : ∃ oc od cd sl, hp.get? 200 = some ⟨oc, od, .cls cd, sl⟩ ∧ cd.hasDel = false := ⟨_, _, _, _, X 200 _ rfl, rfl⟩
  unfold newObjAsIs classHasDel
  refine wpAny_bind (wpAny_alloc (wpAny_bind (wpAny_bind (wpAny_load (Heap.get?_push_of_some _ (Heap.get?_push_of_some _ hC2)) (wpAny_pure ?_)))))
  rw [e2]
  refine wpAny_pure (wpAny_pure ?_)
  rw [Heap.size_push]
  exact h
theorem list_new_code1 {t0 : Tok} (X : (Mine.hd.heap_39 w.params).In s.heap) (h : R (.ok (.ret (.ref (s.heap.objs.size + 1)))) { s with heap := (s.heap.push (dictOf [] 0)).push (accO s.heap.objs.size #[] 0) }) :
    codeAny (model P0 w) A (.call (.builtin "list.__new__") ⟨[.ref 200, .int 0 t0], []⟩) R s := by
  have c1 : Looks (model P0 w) s.heap (checkBuiltinCall "list.__new__" ⟨[.ref 200, .int 0 t0], []⟩) () := Looks.of_peek X (by kernel_rfl)
  have c2 : Looks (model P0 w) s.heap (isType (.ref 200)) true := Looks.of_peek X (by kernel_rfl)
  have c3 : Looks (model P0 w) s.heap (isSubtype (.ref 200) (.type "list")) true := Looks.of_peek X (by kernel_rfl)
  refine codeAny_of_tree ?_
  show wpAny _ A.in1 (do checkBuiltinCall "list.__new__" ⟨[.ref 200, .int 0 t0], []⟩; again (.builtin "list.__new__" ⟨[.ref 200, .int 0 t0], []⟩)) _ _ s
  refine wpAny_bind (c1.here (wpAny_pure ⟨plainId_quiet F.plain_list_new _, codeAny_builtin_stack F.entry_list_new rfl fun p st => ?_⟩))
  rw [Around.under_plainId F.plain_list_new _]
  have hown := owner_list_new
  obtain ⟨hp, g, d, tk, os⟩ := s
  simp only [hown]
  refine wpAny_bind (c2.at ?_)
  rw [if_neg (by decide)]
  refine wpAny_bind (c3.at ?_)
  rw [if_neg (by decide)]
  refine wpAny_bind (wpAny_pure ?_)
  rw [if_neg (by decide)]
  have hC : hp.get? 200 ≠ none := by rw [X 200 _ rfl]; simp
  refine wpAny_bind ?_
  unfold newDict
  refine wpAny_newObj_type ?_
  dsimp only
  refine wpAny_bind ?_
  show wpAny _ _ (newObjAsIs _ _ _) _ _ _
  obtain ⟨oc, od, cd, sl, hC2, e2⟩ : ∃ oc od cd sl, hp.get? 200 = some ⟨oc, od, .cls cd, sl⟩ ∧ cd.hasDel = false := ⟨_, _, _, _, X 200 _ rfl, rfl⟩
  unfold newObjAsIs classHasDel
  refine wpAny_bind (wpAny_alloc (wpAny_bind (wpAny_bind (wpAny_load (Heap.get?_push_of_some _ (Heap.get?_push_of_some _ hC2)) (wpAny_pure ?_)))))
  rw [e2]
  refine wpAny_pure (wpAny_pure ?_)
  rw [Heap.size_push]
  exact h
end
section
variable {w : World} {s : Shared} {A : Around} {t0 : Tok} {Q E : Value → Shared → Prop}
theorem none_past {h : Heap} {a : Addr} (hs : h.objs.size ≤ a) : h.get? a = none := by
  cases z : h.get? a with
  | none => rfl
  | some o => exact absurd (Heap.lt_size z) (Nat.not_lt_of_le hs)
theorem new_facts {Q : Value → Shared → Prop} (hQ : ∀ h' x dx tk, Keeps s.heap h' → h'.get? x = some (accO dx #[] 0) → h'.get? dx = some (dictOf [] 0) → s.heap.get? x = none → s.heap.get? dx = none → dx < x → s.heap.objs.size ≤ dx → Q (.ref x) ⟨h', s.gens, s.drawn, tk, s.os⟩) : Q (.ref (s.heap.objs.size + 1)) { s with heap := (s.heap.push (dictOf [] 0)).push (accO s.heap.objs.size #[] 0) } := by
  refine hQ _ _ s.heap.objs.size _ (fun b o e => Heap.get?_push_of_some _ (Heap.get?_push_of_some _ e)) ?_ (Heap.get?_push_of_some _ (Heap.get?_push_size _ rfl)) (none_past (Nat.le_succ _)) (none_past (Nat.le_refl _)) (Nat.lt_succ_self _) (Nat.le_refl _)
  have := Heap.get?_push_size (s.heap.push (dictOf [] 0)) (o := accO s.heap.objs.size #[] 0) rfl
  rwa [Heap.size_push] at this
theorem list_new0 (X : (Mine.hd.heap_39 w.params).In s.heap) (hQ : ∀ h' x dx tk, Keeps s.heap h' → h'.get? x = some (accO dx #[] 0) → h'.get? dx = some (dictOf [] 0) → s.heap.get? x = none → s.heap.get? dx = none → dx < x → s.heap.objs.size ≤ dx → Q (.ref x) ⟨h', s.gens, s.drawn, tk, s.os⟩) : wpAny (model P0 w) A (call (.builtin "list.__new__") [.ref 200]) Q E s :=
  wpAny_call (list_new_code X (new_facts hQ))
theorem list_new1 (X : (Mine.hd.heap_39 w.params).In s.heap) (hQ : ∀ h' x dx tk, Keeps s.heap h' → h'.get? x = some (accO dx #[] 0) → h'.get? dx = some (dictOf [] 0) → s.heap.get? x = none → s.heap.get? dx = none → dx < x → s.heap.objs.size ≤ dx → Q (.ref x) ⟨h', s.gens, s.drawn, tk, s.os⟩) : wpAny (model P0 w) A (call (.builtin "list.__new__") [.ref 200, .int 0 t0]) Q E s :=
  wpAny_call (list_new_code1 X (new_facts hQ))
end
theorem acc_made {w : World} {h : Heap} (X : (Mine.hd.heap_39 w.params).In h) : Looks (model P0 w) h (Bind.madeBy (.ref 200)) (some "list.__new__") := Looks.of_peek X (by kernel_rfl)
section
variable {w : World} {s : Shared} {A : Around} {Q E : Value → Shared → Prop}
noncomputable abbrev tcA (A : Around) (rest : List Value) : Around := A.under (.builtin "type.__call__" ⟨.ref 200 :: rest, []⟩)
theorem make_acc {rest : List Value} (X : (Mine.hd.heap_39 w.params).In s.heap)
    (hnew : ∀ {Q E : Value → Shared → Prop}, (∀ h' x dx tk, Keeps s.heap h' → h'.get? x = some (accO dx #[] 0) → h'.get? dx = some (dictOf [] 0) → s.heap.get? x = none → s.heap.get? dx = none → dx < x → s.heap.objs.size ≤ dx → Q (.ref x) ⟨h', s.gens, s.drawn, tk, s.os⟩) →
      wpAny (model P0 w) (tcA A rest) (call (.builtin "list.__new__") (.ref 200 :: rest)) Q E s)
    (h : ∀ h' x dx tk, Keeps s.heap h' → h'.get? x = some (accO dx #[] 0) → h'.get? dx = some (dictOf [] 0) → s.heap.get? x = none → s.heap.get? dx = none → dx < x → s.heap.objs.size ≤ dx →
      wpAny (model P0 w) (tcA A rest) (call (.ref 137) (.ref x :: rest)) (fun v s' => v = .none ∧ Q (.ref x) s') E ⟨h', s.gens, s.drawn, tk, s.os⟩) :
    wpAny (model P0 w) A (call (.ref 200) rest) Q E s := by
  obtain ⟨hh, g, d, t, os⟩ := s
  obtain ⟨oc, od, cd, sl, hC, e4⟩ : ∃ oc od cd sl, hh.get? 200 = some ⟨oc, od, .cls cd, sl⟩ ∧ cd.mro.isEmpty = false := ⟨_, _, _, _, X 200 _ rfl, rfl⟩
  have hcall : Looks (model P0 w) hh (specialOf (.ref 200) "__call__") (some (.builtin "type.__call__")) := Looks.of_peek X (by kernel_rfl)
  have typ : Looks (model P0 w) hh (isInstance (.ref 200) (.type "type")) true := Looks.of_peek X (by kernel_rfl)
  have made := acc_made X
  have hm : Looks (model P0 w) hh (mroOf (.ref 200)) cd.mro := ((Looks.ld (part := none) hC).andThen .now).andThen .now
  refine wpAny_call (codeAny_of_tree ?_)
  show wpAny _ _ (callAny (.ref 200) _) _ _ _
  refine nd_load hC ?_
  show wpAny _ _ (callAny.viaDunder (.ref 200) _) _ _ _
  unfold callAny.viaDunder
  refine wpAny_bind (hcall.at ?_)
  dsimp only
  rw [tc_bind]
  refine wpAny_bind (wpAny_pure (wpAny_bind (wpAny_pure ?_)))
  refine wpAny_pure (a := PySem.Fin.again (.call (.builtin "type.__call__") ⟨.ref 200 :: rest, []⟩)) (And.intro rfl ?_)
  refine codeAny_call_builtin_at (Code.quiet_builtin _ (by decide +kernel)) entry_typeCall (check_slot tc_kind tc_split typ (tc_args _ _ _) ?_)
  unfold Builtin.«type.__call__»
  repeat ((fail_if_success (with_reducible show wpAny _ _ (PySem.call _ _ _) _ _ _)); first | simp only [e4, Bool.false_eq_true, if_false] | lk)
  refine hnew fun h' x dx tk k ex ed nx nd lt le => ?_
  have X' := X.keeps k
  have t1 : Looks (model P0 w) h' (typeOf (.ref x)) (.ref 200) := (Looks.ld ex).andThen .now
  have s1 : Looks (model P0 w) h' (isSubtype (.ref 200) (.ref 200)) true := Looks.of_peek X' (by kernel_rfl)
  have i1 : Looks (model P0 w) h' (typeLookup (.ref 200) "__init__") (some (.ref 137)) := Looks.of_peek X' (by kernel_rfl)
  have b1 : Looks (model P0 w) h' (bindSpecial (.ref 137) (.ref x)) (.ref 137, [.ref x]) := bind_fn X' _ (by kernel_rfl)
  unfold isInstance callSpecial? specialOf
  repeat ((fail_if_success (with_reducible show wpAny _ _ (PySem.call _ _ _) _ _ _)); lk)
  refine wpAny_mono (h h' x dx tk k ex ed nx nd lt le) (fun v s' hv => ?_) fun _ _ e => e
  obtain ⟨rfl, z⟩ := hv
  exact wpAny_pure (wpAny_pure z)
end
end
section
open Builtin.ObjectAttr
theorem kw_B15_1 : True := by
  k_with_none
  k_with "execs cons" => ((with_reducible refine seq_cons fun zQ1 ztk zhQ1 => ?_); try dsimp only)
  trivial
section
variable {w : World} {A : Around} {E : Value → Shared → Prop} {s : Shared} {K : Frag} {x dx : Addr} {items : Array Value} {n de : Nat} {hs : Int} {tk0 t0 t : Tok} {cd : ClassData} {Q : Unit → Shared → Prop}
theorem setIni0_acc (X : K.In s.heap) (I : InstAt s.heap x (accO dx items n) 200 (some (dictOf [] 0))) (hs' : findIn K (.ref 200) "__setattr__" = some (some (.builtin "object.__setattr__"))) (hcl : clsIn K 200 = some cd)
    (hmro : cd.mro = [.ref 200, .type "list", .type "object"]) (hdct : cd.hasDict = true) (hob : mroIn K 200 (.type "object") = some true) (ha : findIn K (.ref 200) "_initial_size" = some none)
    (h : ∀ h' tk hs tk0, KeepsBut [dx] s.heap h' → h'.get? dx = some (dictOf (es1 hs tk0 t) 1) → Q () { s with heap := h', toks := tk }) : wpAny (model P0 w) A (setAttr (.ref x) "_initial_size" (.int 0 t)) Q E s := by
  have SF := PySem.F.store_object
  refine set_plain X I hs' ?_
  refine codeAny_call_builtin SF.slot.plain SF.entry (@check_slot (model P0 w) _ _ { s with toks := s.toks + 1 } "object.__setattr__" "object" "__setattr__" (.ref x) _ [] _ SF.kind SF.split (I.type.andThen (looks_mroIn X hob)) (SF.args (.ref x) _ _) ?_)
  rw [osa_eq, refuse_eq]
  have hm : Looks (model P0 w) s.heap (mroOf (.ref 200)) cd.mro := (looks_clsIn X hcl).andThen .now
  refine wpAny_bind (wpAny_bind (Looks.here (s := { s with toks := s.toks + 1 }) I.type (wpAny_bind (Looks.here (s := { s with toks := s.toks + 1 }) hm ?_))))
  rw [hmro, refuseLoop_ref, passes_list]
  refine wpAny_pure (wpAny_bind (Looks.here (s := { s with toks := s.toks + 1 }) I.type (wpAny_bind (Looks.here (s := { s with toks := s.toks + 1 }) (looks_findIn X ha) (wpAny_bind (wpAny_pure ?_))))))
  have D := I.dict
  dsimp only at D
  refine wpAny_bind (wpAny_pure (wpAny_bind (wpAny_bind (wpAny_loadPart I.at_ (wpAny_bind (Looks.here (s := { s with toks := s.toks + 1 }) (looks_clsIn X hcl) ?_))))))
  rw [hdct]
  refine wpAny_pure (a := some dx) (wpAny_bind (wpAny_pure (wpAny_bind ?_)))
  unfold nsSet
  refine wpAny_bind (wpAny_bind (wpAny_askSetting (wpAny_pure (wpAny_bind (wpAny_mkText (wpAny_bind (wpAny_loadPart D ?_)))))))
  dsimp only
  have cf : aRefKeyMayBeTheName "_initial_size" ([] : List DictEntry).toArray = false := by rw [aRefKeyMayBeTheName_at, ← Array.any_toList, ← Array.any_toList]; rfl
  rw [cf, if_neg (by decide)]
  have pe : ∀ hh kk, Obj.putName "_initial_size" hh (.str "_initial_size" kk) (.int 0 t) (dictOf [] 0) = dictOf (es1 hh kk t) 1 := fun hh kk => by rw [putName_dict]; rfl
  refine wpAny_updatePart D ?_
  have D2 : (s.heap.update dx (Obj.putName "_initial_size" (PyData.keyHash w.params "_initial_size") (.str "_initial_size" (s.toks + 1)) (.int 0 t))).get? dx = some (dictOf (es1 (PyData.keyHash w.params "_initial_size") (s.toks + 1) t) 1) := by
    rw [Heap.get?_update_self _ D (by rw [pe]; rfl), pe]
  refine wpAny_bind (wpAny_lookBehind D2 (pastItsLine_dict (by simp [sizeLine_eq])) ?_)
  exact wpAny_pure (h _ _ _ _ (fun b o nb e => (Heap.get?_update_other _ _ (fun q : dx = b => nb (by simp [q]))).trans e) D2)
end
section
variable {w : World} {s : Shared} {A : Around} {E : Value → Shared → Prop} {h₀ : Heap} {L : Addr} {m : PySem.Str → Option Value} {news : List (Addr × Obj)} {x dx q : Addr} {n : Nat} {K : Frag} {Q : Value → Shared → Prop}
theorem check_init {x : Addr} {Q : Unit → Shared → Prop} (h : Q () s) : wpAny (model P0 w) A (checkBoundCall "list.__init__" ⟨[.ref x], []⟩) Q E s := by
  have e : checkBoundCall "list.__init__" ⟨[.ref x], []⟩ = pure () := by kernel_rfl
  rw [e]; exact wpAny_pure h
theorem init_op {Q : PySem.Fin → Shared → Prop} (hx : s.heap.get? x = some (accO dx #[] n)) (h : ∀ h', KeepsBut [x] s.heap h' → h'.get? x = some (accO dx #[] n) → Q (.done (.ret .none)) { s with heap := h' }) : wpAny (model P0 w) A (Builtin.«list.__init__» ⟨[.ref x], []⟩) Q E s := by
  have hd : (accO dx #[] n).data = .seq #[] n := rfl
  unfold Builtin.«list.__init__»
  show wpAny _ _ (Builtin.List.listItems (.ref x) >>= _) _ _ s
  refine wpAny_bind (list_items hx hd ?_)
  unfold Builtin.List.listUpdate
  dsimp only
  refine wpAny_bind (wpAny_updateSeq hx hd ?_ (by simp) (by simp))
  refine wpAny_bind (wpAny_letGo ?_)
  refine wpAny_pure (h _ (fun b o nb e => ?_) ?_)
  · exact (Heap.get?_update_other _ _ (fun q : x = b => nb (by simp [q]))).trans e
  · rw [Heap.get?_update_self _ hx (by rw [mapSeq_acc]; rfl), mapSeq_acc]
    rfl
theorem call_init_K (F : Fr h₀ L s.heap m) (N : News h₀ L s.heap news) (hq : (q, boundO "method-wrapper" "list.__init__" x) ∈ news) (hx : (x, accO dx #[] n) ∈ news)
    (h : ∀ h', Fr h₀ L h' m → KeepsBut [x] s.heap h' → h'.get? x = some (accO dx #[] n) → Q .none { s with heap := h' }) : wpAny (model P0 w) A (call (.ref q) []) Q E s :=
  call_bound (N _ hq).1 (.inr rfl) (fun q => check_init q) (by decide +kernel) PySem.F.entry_list_init (init_op (N _ hx).1 fun h' k e => ⟨.none, rfl, h h' (fr_but F N hx k) k e⟩)
end
theorem fillB15 (w : World) (h : Heap) (X : (Mine.hd.heap_39 w.params).In h) (e : PySem.Challenge.rw_wu0089_01.foot = PySem.Challenge.rw_wu0089_01.foot) : True := by
  revert X e; k_fill; intro _ _; trivial

theorem kw_B15_2 : True := by
  k_with "k_inst" => (refine' acc_inst ?q2a ?q2b ?q2c; (case q2a => k_asm); (case q2b => k_mem); (case q2c => k_mem))
  k_with "getMethod ref" => (k_here; (with_reducible show wpAny _ _ (getMethod (Value.ref _) (PySem.Str.ofString "append") _) _ _ _); k_dflt (refine' method_bi ?q6a ?q6b ?q6c ?q6d ?q6h ?q6i ?q6e ?q6f ?q6g ?_; (case q6a => k_asm); (case q6b => k_asm); (case q6c => k_inst); (case q6d => k_is); (case q6h => kernel_rfl); (case q6i => k_is); (case q6e => k_is); (case q6f => kernel_rfl); (case q6g => first | assumption | k_get); k_whole))
  k_with "call builtin:list.append" => (k_here; (with_reducible show wpAny _ _ (call (Value.builtin _) [Value.ref _, _]) _ _ _); k_dflt (refine' append_acc ?q4a ?q4b ?q4c ?q4d ?q4e ?q4f ?_ ?q4g; (case q4a => k_asm); (case q4b => k_asm); (case q4c => k_asm); (case q4e => k_is); (case q4f => k_upd); (case q4d => k_mem); (case q4g => assumption); k_whole); intro zh' zF' zN'; (try k_sweep))
  k_with "ktr_enter" => (refine' enter_fn ?q7a ?q7d ?q7e ?q7f ?q7g ?q7h ?q7i ?_ ?q7j ?q7k ?q7b ?q7c; (case q7g => assumption); (case q7a => assumption); (case q7e => k_is); (case q7f => k_is); (case q7d => decide); (case q7h => first | exact BindsTo.of_eq rfl | exact binds_K (Gd.here (by assumption)).X rfl (by k_is) rfl rfl rfl); (case q7j => decide); (case q7i => exact locs rfl); (case q7k => exact rfl); (case q7b => exact rfl); (case q7c => exact rfl); k_whole; rintro zg' zL' zh' zp' zl' zmean' zmg' zmb' zT' zX' zGN zF' zN' zl1 zK1 zhL'; (try dsimp only); (try k_fold))
  k_with "ks_enter" => (refine' enter_at ?q8a ?q8d ?q8e ?q8f ?q8g ?q8h ?q8i ?_ ?q8j ?q8k ?q8b ?q8c; (case q8g => assumption); (case q8a => assumption); (case q8e => k_is); (case q8f => k_is); (case q8d => decide); (case q8h => first | exact BindsTo.of_eq rfl | exact binds_K (Gd.here (by assumption)).X rfl (by k_is) rfl rfl rfl); (case q8j => decide); (case q8i => exact locs rfl); (case q8k => exact rfl); (case q8b => exact rfl); (case q8c => exact rfl); k_whole; rintro zg' zL' zh' zp' zl' zmean' zmg' zmb' zT' zX' zGN zF' zN' zl1 zK1 zhL'; (try dsimp only))
  k_with "callWith ref" => (k_here; (with_reducible show wpAny _ _ (callWith _ (Value.ref _) [] (backTo _ (starEach [] _)) []) _ _ _); k_dflt (refine' callWith_B0 ?q9a ?q9b ?q9c ?_; (case q9a => k_asm); (case q9b => k_mem); (case q9c => first | exact .inl rfl | exact .inr rfl)))
  k_with "getAttr ref" => (k_here; (with_reducible show wpAny _ _ (getAttr (Value.ref _) _ _) _ _ _); k_dflt (refine' get_ownA ?q10d ?q10e ?q10f ?q10l ?q10m ?q10n ?q10g ?q10h ?q10i ?q10j ?q10k ?_; (case q10d => k_asm); (case q10e => k_asm); (case q10f => (refine' acc_inst ?q10a ?q10b ?q10c; (case q10a => k_asm); (case q10b => k_mem); (case q10c => k_mem))); (case q10l => k_is); (case q10m => k_is); (case q10n => k_is); (case q10g => k_is); (case q10h => k_is); (case q10i => k_is); (case q10j => first | assumption | k_get); (case q10k => k_handed); k_whole))
  k_with "getMethod ref" => (k_here; (with_reducible show wpAny _ _ (getMethod (Value.ref _) _ _) _ _ _); k_dflt (refine' method_fnA ?q13a ?q13b ?q13c ?q13d ?q13h ?q13i ?q13e ?q13f ?q13g ?_; (case q13a => k_asm); (case q13b => k_asm); (case q13c => k_inst); (case q13d => k_is); (case q13h => kernel_rfl); (case q13i => k_is); (case q13e => k_is); (case q13f => k_is); (case q13g => first | assumption | k_get); k_whole))
  trivial
section
variable {w : World} {s : Shared} {x dx : Addr} {Q E : Value → Shared → Prop} {t0 : Tok}
theorem kw_B15_3 : True := by
  k_with "getMethod ref" => (k_here; (with_reducible show wpAny _ _ (getMethod (Value.ref _) (PySem.Str.ofString "__init__") _) _ _ _); k_dflt (refine' super_init_K ?q22a ?q22c ?q22d ?q22e ?q22f ?q22g ?q22h ?q22i ?q22j ?q22b ?_; (case q22a => exact (Gnd.bs (by assumption))); (case q22c => k_asm); (case q22d => k_asm); (case q22e => k_mem); (case q22f => k_mem); (case q22g => k_is); (case q22h => assumption); (case q22i => k_is); (case q22j => ks_is); (case q22b => exact le_at rfl rfl rfl); k_whole); intro zq' zh' ztk' zF' zN' zl2; (replace zl2 := allNe_of zl2); (simp only [AllNe, and_true] at zl2))
  k_with "setAttr ref" => (refine stop ?_)
  k_with "call ref" => ((with_reducible show wpAny _ _ (call (Value.ref _) []) _ _ _); refine stop ?_)
  trivial
theorem init_spec (G : Gd w s.heap [x, dx]) (hx : s.heap.get? x = some (accO dx #[] 0)) (hd : s.heap.get? dx = some (dictOf [] 0)) (hne : @Ne Nat x dx) (h200 : @Ne Nat x 200)
    (hQ : ∀ h' tk hs tk0 t, KeepsBut [x, dx] s.heap h' → h'.get? x = some (accO dx #[] 0) → h'.get? dx = some (dictOf (es1 hs tk0 t) 1) → Q .none { s with heap := h', toks := tk }) :
    wpAny (model P0 w) (At 570 3700) (call (.ref 137) [.ref x, .int 0 t0]) Q E s := by
  have hn := mem2 hx hd
  refine wpAny_call ?_
  k_dflt ks_enter
  refine ks_wpAt_execs_cons (wpAt_of_wpAny ?_)
  k_steps
  unfold Stop
  rename Gnd w s.heap _ _ => GN
  rename Fr _ _ _ _ => F
  rename News _ _ _ _ => N
  rename (Mine.hd.heap_39 w.params).In _ => X'
  refine setIni0_acc (X'.keeps F.keep) (acc_inst N (by k_mem) (by k_mem)) (by k_is) (by k_is) rfl rfl (by k_is) (by k_is) (fun h2 tk2 hs tk0 k2 e2 => ?_)
  have F8 := fr_but F N (x := dx) (o := dictOf [] 0) (by k_mem) k2
  have N8 := news_but N (by k_upd) k2 e2
  clear F N
  dsimp only
  refine ks_wpAt_execs_cons ?_
  refine' ks_wpAt_Expr_any ?a ?b ?c
  case b => rfl
  case c => rfl
  refine ks_wpAt_MethodCall ?_
  k_steps
  unfold Stop
  rename Fr _ _ _ _ => F
  rename News _ _ _ _ => N
  refine call_init_K (x := x) (dx := dx) (n := 0) F N (by k_mem) (by k_mem) (fun h3 F3 k3 e3 => ?_)
  have N3 := news_but N (by k_upd) k3 e3
  clear F N
  k_steps
  rename Fr _ _ _ _ => F
  rename News _ _ _ _ => N
  refine hQ _ _ _ _ _ (gnd_but GN F.keep ?_) (N (x, _) (by k_mem)).1 (N (dx, _) (by k_mem)).1
  refine mem_all2 ?_ ?_
  · exact .inl (.head _)
  · exact .inl (.tail _ (.head _))
theorem init0_spec (G : Gd w s.heap [x, dx]) (hx : s.heap.get? x = some (accO dx #[] 0)) (hd : s.heap.get? dx = some (dictOf [] 0)) (hne : @Ne Nat x dx) (h200 : @Ne Nat x 200)
    (hQ : ∀ h' tk hs tk0 t, KeepsBut [x, dx] s.heap h' → h'.get? x = some (accO dx #[] 0) → h'.get? dx = some (dictOf (es1 hs tk0 t) 1) → Q .none { s with heap := h', toks := tk }) :
    wpAny (model P0 w) (At 570 3700) (call (.ref 137) [.ref x]) Q E s := by
  have hn := mem2 hx hd
  refine wpAny_call ?_
  k_dflt ks_enter
  refine ks_wpAt_execs_cons (wpAt_of_wpAny ?_)
  k_steps
  unfold Stop
  rename Gnd w s.heap _ _ => GN
  rename Fr _ _ _ _ => F
  rename News _ _ _ _ => N
  rename (Mine.hd.heap_39 w.params).In _ => X'
  refine setIni0_acc (X'.keeps F.keep) (acc_inst N (by k_mem) (by k_mem)) (by k_is) (by k_is) rfl rfl (by k_is) (by k_is) (fun h2 tk2 hs tk0 k2 e2 => ?_)
  have F8 := fr_but F N (x := dx) (o := dictOf [] 0) (by k_mem) k2
  have N8 := news_but N (by k_upd) k2 e2
  clear F N
  dsimp only
  refine ks_wpAt_execs_cons ?_
  refine' ks_wpAt_Expr_any ?a ?b ?c
  case b => rfl
  case c => rfl
  refine ks_wpAt_MethodCall ?_
  k_steps
  unfold Stop
  rename Fr _ _ _ _ => F
  rename News _ _ _ _ => N
  refine call_init_K (x := x) (dx := dx) (n := 0) F N (by k_mem) (by k_mem) (fun h3 F3 k3 e3 => ?_)
  have N3 := news_but N (by k_upd) k3 e3
  clear F N
  k_steps
  rename Fr _ _ _ _ => F
  rename News _ _ _ _ => N
  refine hQ _ _ _ _ _ (gnd_but GN F.keep ?_) (N (x, _) (by k_mem)).1 (N (dx, _) (by k_mem)).1
  refine mem_all2 ?_ ?_
  · exact .inl (.head _)
  · exact .inl (.tail _ (.head _))
end
section
variable {w : World} {s : Shared} {A : Around} {Q E : Value → Shared → Prop} {t0 : Tok}
theorem keeps_of2 {a b c : Heap} {x dx : Addr} (k : Keeps a b) (k2 : KeepsBut [x, dx] b c) (nx : a.get? x = none) (nd : a.get? dx = none) : Keeps a c := fun p o e => k2 p o (by
  intro q
  simp only [List.mem_cons, List.not_mem_nil, or_false] at q
  rcases q with rfl | rfl
  · rw [nx] at e; cases e
  · rw [nd] at e; cases e) (k p o e)
theorem new0_spec (B : Bs w s.heap)
    (hQ : ∀ h' x dx tk hs tk0 t, Keeps s.heap h' → h'.get? x = some (accO dx #[] 0) → h'.get? dx = some (dictOf (es1 hs tk0 t) 1) → s.heap.get? x = none → s.heap.get? dx = none → dx < x → s.heap.objs.size ≤ dx → Q (.ref x) { s with heap := h', toks := tk }) :
    wpAny (model P0 w) (At 530 3300) (call (.ref 200) []) Q E s := by
  have h200 : s.heap.get? 200 ≠ none := by rw [B.X 200 _ rfl]; simp
  refine make_acc B.X (fun hq => list_new0 B.X hq) (fun h1 x dx tk k ex ed nx nd lt le => ?_)
  have h2 : @Ne Nat x 200 := fun q => h200 (q ▸ nx)
  exact at_le (le_at rfl rfl rfl) (init0_spec (s := ⟨h1, s.gens, s.drawn, tk, s.os⟩) (Gd.of B k (all2 nx nd)) ex ed (Nat.ne_of_gt lt) h2 fun h' tk' hs tk0 t k' e1 e2 => ⟨rfl, hQ h' x dx tk' hs tk0 t (keeps_of2 k k' nx nd) e1 e2 nx nd lt le⟩)
theorem new1_spec (B : Bs w s.heap)
    (hQ : ∀ h' x dx tk hs tk0 t, Keeps s.heap h' → h'.get? x = some (accO dx #[] 0) → h'.get? dx = some (dictOf (es1 hs tk0 t) 1) → s.heap.get? x = none → s.heap.get? dx = none → dx < x → s.heap.objs.size ≤ dx → Q (.ref x) { s with heap := h', toks := tk }) :
    wpAny (model P0 w) (At 530 3300) (call (.ref 200) [.int 0 t0]) Q E s := by
  have h200 : s.heap.get? 200 ≠ none := by rw [B.X 200 _ rfl]; simp
  refine make_acc B.X (fun hq => list_new1 B.X hq) (fun h1 x dx tk k ex ed nx nd lt le => ?_)
  have h2 : @Ne Nat x 200 := fun q => h200 (q ▸ nx)
  exact at_le (le_at rfl rfl rfl) (init_spec (s := ⟨h1, s.gens, s.drawn, tk, s.os⟩) (Gd.of B k (all2 nx nd)) ex ed (Nat.ne_of_gt lt) h2 fun h' tk' hs tk0 t k' e1 e2 => ⟨rfl, hQ h' x dx tk' hs tk0 t (keeps_of2 k k' nx nd) e1 e2 nx nd lt le⟩)
end
end
section
section
variable {M : Model} {A : Around} {s : Shared} {env : Env} {target : Expr} {it : Value} {body orelse : List Stmt} {R : Result → Shared → Prop}
theorem forOnce {prog : Program} {w : World}
    (h1 : wpAny (model prog w) A (pyNext it) (fun r s₁ => ∃ v, r = some v ∧ wpAny (model prog w) A (assign target env v) (fun _ s₂ => wpAny (model prog w) A (execs body env) (fun f s₃ => match f with | .next | .cont => wpAny (model prog w) A (pyNext it) (fun r s₁ => r = none ∧ wpAny (model prog w) A (execs orelse env) (fun f s₃ => R (.ok f) s₃) (fun _ _ => False) s₁) (fun _ _ => False) s₃ | .brk => R (.ok .next) s₃ | .ret v => R (.ok (.ret v)) s₃) (fun _ _ => False) s₂) (fun _ _ => False) s₁) (fun _ _ => False) s)
    (ht : ∀ v, letOwnedTupleGo target it v = pure () := by intro _; rfl) : codeAny (model prog w) A (.forLoop target it body orelse env) R s := by
  refine codeAny_forLoop (fun n s' => (n = 1 ∧ s' = s) ∨ (n = 0 ∧ wpAny (model prog w) A (pyNext it) (fun r s₁ => r = none ∧ wpAny (model prog w) A (execs orelse env) (fun f s₃ => R (.ok f) s₃) (fun _ _ => False) s₁) (fun _ _ => False) s')) (fun n s' hI => ?_) 1 (.inl ⟨rfl, rfl⟩) ht
  rcases hI with ⟨rfl, rfl⟩ | ⟨rfl, hm⟩
  · refine wpAny_mono h1 (fun r s₁ hr => ?_) fun _ _ e => e.elim
    obtain ⟨v, rfl, hv⟩ := hr
    refine wpAny_mono hv (fun _ s₂ h₂ => wpAny_mono h₂ (fun f s₃ h₃ => ?_) fun _ _ e => e.elim) fun _ _ e => e.elim
    cases f with
    | next => exact ⟨0, by omega, .inr ⟨rfl, h₃⟩⟩
    | cont => exact ⟨0, by omega, .inr ⟨rfl, h₃⟩⟩
    | brk => exact h₃
    | ret v => exact h₃
  · refine wpAny_mono hm (fun r s₁ hr => ?_) fun _ _ e => e.elim
    obtain ⟨rfl, hv⟩ := hr
    exact wpAny_mono hv (fun f s₃ h₃ => h₃) fun _ _ e => e.elim
theorem forNone {prog : Program} {w : World}
    (h0 : wpAny (model prog w) A (pyNext it) (fun r s₁ => r = none ∧ wpAny (model prog w) A (execs orelse env) (fun f s₃ => R (.ok f) s₃) (fun _ _ => False) s₁) (fun _ _ => False) s)
    (ht : ∀ v, letOwnedTupleGo target it v = pure () := by intro _; rfl) : codeAny (model prog w) A (.forLoop target it body orelse env) R s := by
  refine codeAny_forLoop (fun n s' => s' = s) (fun n s' hI => ?_) 0 rfl ht
  subst hI
  refine wpAny_mono h0 (fun r s₁ hr => ?_) fun _ _ e => e.elim
  obtain ⟨rfl, hv⟩ := hr
  exact wpAny_mono hv (fun f s₃ h₃ => h₃) fun _ _ e => e.elim
end
theorem Rws.snoc {h : Heap} {items : Array Value} {ws : List (PySem.Str × PySem.Str)} {t : Addr} {f v : PySem.Str} {t1 t2 : Tok} (R : Rws h items ws) (e : h.get? t = some (tupO [.str f t1, .str v t2])) : Rws h (items.push (.ref t)) (ws ++ [(f, v)]) := by
  refine ⟨by simp [R.size], fun k p hk => ?_⟩
  by_cases q : k < ws.length
  · rw [List.getElem?_append_left q] at hk
    obtain ⟨T, a, b, c, d⟩ := R.at_ k p hk
    refine ⟨T, a, b, ?_, d⟩
    have : k < items.size := R.size ▸ q
    rw [Array.getElem?_push]
    rw [if_neg (by omega)]
    exact c
  · have q2 : k = ws.length := by
      obtain ⟨hl, _⟩ := List.getElem?_eq_some_iff.mp hk
      simp at hl; omega
    subst q2
    rw [List.getElem?_append_right (Nat.le_refl _)] at hk
    simp at hk
    subst hk
    exact ⟨t, t1, t2, by rw [← R.size]; simp, e⟩

/-- the iterator of a one-sign string -/
noncomputable def ItS (o : Obj) (t : Tok) (i : Nat) : Prop := o.cls = .type "str_ascii_iterator" ∧ o.data = .fields #[.str " " t, .int i 0]
section
variable {w : World} {s : Shared} {A : Around} {E : Value → Shared → Prop} {g : Heap} {L : Addr} {m : PySem.Str → Option Value} {news : List (Addr × Obj)} {t : Tok} {I : Addr} {o : Obj}
theorem str1_iter {Q : Value → Shared → Prop} (F : Fr g L s.heap m) (N : News g L s.heap news)
    (h : ∀ I h' o, ItS o t 0 → Fr g L h' m → News g L h' ((I, o) :: news) → (∀ p ∈ news, p.1 ≠ I) → @LT.lt Nat _ L I → Q (.ref I) { s with heap := h' }) : wpAny (model P0 w) A (pyIter (.str " " t)) Q E s :=
  wpAny_pyIter_ascii (by decide +kernel) (h _ _ { cls := .type "str_ascii_iterator", data := .fields #[.str " " t, .int 0 0] } ⟨rfl, rfl⟩ (F.push _) (News.push F N _) (fun p hp e => absurd (Heap.lt_size (N p hp).1) (by rw [e]; exact Nat.lt_irrefl _)) F.ns.lt)
theorem str1_next {Q : Option Value → Shared → Prop} (F : Fr g L s.heap m) (N : News g L s.heap news) (hI : (I, o) ∈ news) (ho : ItS o t 0)
    (h : ∀ h' u tk o1, ItS o1 t 1 → Fr g L h' m → KeepsBut [I] s.heap h' → h'.get? I = some o1 → Q (some (.str " " u)) { s with heap := h', toks := tk }) : wpAny (model P0 w) A (pyNext (.ref I)) Q E s := by
  refine wpAny_pyNext_ascii_item (x := " ") (t := t) (i := 0) (c := 32) ⟨o, (N _ hI).1, ho.1, ho.2⟩ rfl (fun h' hit hs => ?_)
  obtain ⟨o1, e1, c1, d1⟩ := hit
  have k : KeepsBut [I] s.heap h' := fun b ob nb e => hs.extBut b ob (fun q => nb (by simp [q])) e
  exact h h' _ _ o1 ⟨c1, d1⟩ (fr_but F N hI k) k e1
theorem str1_end {Q : Option Value → Shared → Prop} (hh : A.handled = none) (F : Fr g L s.heap m) (N : News g L s.heap news) (hI : (I, o) ∈ news) (ho : ItS o t 1)
    (h : ∀ h', Fr g L h' m → KeepsBut [I] s.heap h' → Q none { s with heap := h' }) : wpAny (model P0 w) A (pyNext (.ref I)) Q E s := by
  refine wpAny_pyNext_ascii_end (x := " ") (t := t) (i := 1) hh ⟨o, (N _ hI).1, ho.1, ho.2⟩ rfl (fun h' hs => ?_)
  have k : KeepsBut [I] s.heap h' := fun b ob nb e => hs b ob (fun q => nb (by simp [q])) e
  exact h h' (fr_but F N hI k) k
theorem news_drop {h h' : Heap} {news' : List (Addr × Obj)} (N : News g L h news) (k : KeepsBut [I] h h') (hs : ∀ p ∈ news', p ∈ news ∧ p.1 ≠ I) : News g L h' news' := fun p hp =>
  ⟨k _ _ (fun q => (hs p hp).2 (List.mem_singleton.mp q)) (N p (hs p hp).1).1, (N p (hs p hp).1).2⟩
noncomputable abbrev rngO (a b c : Int) (t u v : Tok) : Obj := { cls := .type "range", data := .fields #[.int a t, .int b u, .int c v] }
noncomputable abbrev rngI (x left step : Int) : Obj := { cls := .type "range_iterator", data := .fields #[rawInt x, rawInt left, rawInt step] }
theorem rng_size (n : Nat) : Builtin.Range.rangeSize (n : Int) 0 (-1) = n := by
  unfold Builtin.Range.rangeSize
  simp
  try omega
theorem rng_small (n : Nat) (hn : n < 1000000) : Builtin.Range.small (n : Int) 0 (-1) = true := by
  unfold Builtin.Range.small
  rw [rng_size]
  have e1 : Builtin.Range.rangeFitsLong (n : Int) = true := by unfold Builtin.Range.rangeFitsLong; simp; omega
  have e2 : Builtin.Range.rangeFitsLong 0 = true := by decide
  have e3 : Builtin.Range.rangeFitsLong (-1) = true := by decide
  simp [e1, e2, e3]
theorem rng_iter {r : Addr} {n : Nat} {a b c : Int} {u v : Tok} {Q : Value → Shared → Prop} (F : Fr g L s.heap m) (N : News g L s.heap news) (hr : s.heap.get? r = some (rngO a b c t u v)) (ha : a = (n : Int)) (hb : b = 0) (hc : c = -1) (hn : n < 1000000)
    (h : ∀ I h', Fr g L h' m → News g L h' ((I, rngI n n (-1)) :: news) → (∀ p ∈ news, p.1 ≠ I) → @LT.lt Nat _ L I → Q (.ref I) { s with heap := h' }) : wpAny (model P0 w) A (pyIter (.ref r)) Q E s := by
  subst ha; subst hb; subst hc
  refine wpAny_pyIter_range (a := n) (b := 0) (c := -1) hr (rng_small n hn) ?_
  rw [rng_size]
  exact h _ _ (F.push _) (News.push F N _) (fun p hp e => absurd (Heap.lt_size (N p hp).1) (by rw [e]; exact Nat.lt_irrefl _)) F.ns.lt
theorem rng_next {n : Nat} {Q : Option Value → Shared → Prop} (F : Fr g L s.heap m) (N : News g L s.heap news) (hI : (I, rngI n n (-1)) ∈ news) (hn : 0 < n)
    (h : ∀ h' tk u o1, Fr g L h' m → KeepsBut [I] s.heap h' → h'.get? I = some o1 → Q (some (.int n u)) { s with heap := h', toks := tk }) : wpAny (model P0 w) A (pyNext (.ref I)) Q E s := by
  refine wpAny_pyNext_range_item (x := n) (left := n) (step := -1) (N _ hI).1 (by omega) (fun h' hit hs => ?_)
  have k : KeepsBut [I] s.heap h' := fun b ob nb e => hs.extBut b ob (fun q => nb (by simp [q])) e
  exact h h' _ _ _ (fr_but F N hI k) k hit
theorem rng_end {Q : Option Value → Shared → Prop} (hh : A.handled = none) (F : Fr g L s.heap m) (N : News g L s.heap news) {n : Nat} (hn : n = 0) (hI : (I, rngI n n (-1)) ∈ news)
    (h : ∀ h', Fr g L h' m → KeepsBut [I] s.heap h' → Q none { s with heap := h' }) : wpAny (model P0 w) A (pyNext (.ref I)) Q E s := by
  refine wpAny_pyNext_range_end (x := n) (left := n) (step := -1) hh (N _ hI).1 (by omega) (fun h' hs => ?_)
  have k : KeepsBut [I] s.heap h' := fun b ob nb e => hs b ob (fun q => nb (by simp [q])) e
  exact h h' (fr_but F N hI k) k
end
section
variable {w : World} {s : Shared} {A : Around} {E : Value → Shared → Prop} {x dx : Addr} {items : Array Value} {n : Nat} {odx : Obj} {K : Frag}
theorem getIdx_acc {k : Int} {t : Tok} {v : Value} {Q : Value → Shared → Prop} (X : K.In s.heap) (I : InstAt s.heap x (accO dx items n) 200 (some odx)) (hm : mroIn K 200 (.type "list") = some true) (hdq : mroIn K 200 (.type "collections.deque") = some false)
    (hf : findIn K (.ref 200) "__getitem__" = some (some (.builtin "list.__getitem__"))) (h0 : 0 ≤ k) (hfit : k < 2 ^ 63) (hx : items[k.toNat]? = some v) (h : Q v s) : wpAny (model P0 w) A (getItem (.ref x) (.int k t)) Q E s := by
  unfold getItem
  refine wpAny_holding (wpAny_bind (seqKey_acc X I hdq ?_))
  refine wpAny_bind (callSpecial_acc X I hf (slot_list_getitem.bind _) ?_)
  refine call_bi (owner := "list") (n := "__getitem__") slot_list_getitem.plain (by decide +kernel) (by decide +kernel) (acc_isList X I hm) entry_list_getitem (args_list_getitem _ _) ?_
  show wpAny _ _ (Builtin.List.listSubscript? (.int k t) >>= _) _ _ s
  refine wpAny_bind (wpAny_listSubscript_int (fitsIndex_of h0 hfit) ?_)
  clear hfit
  obtain ⟨j, rfl⟩ := Int.eq_ofNat_of_zero_le h0
  have hx' : items[j]? = some v := hx
  have hd : (accO dx items n).data = .seq items n := rfl
  show wpAny _ _ ((seqItemAt x j >>= fun r => pure (r.map (j, ·))) >>= _) _ _ s
  refine wpAny_bind (wpAny_bind (wpAny_seqItemAt I.at_ hd (wpAny_pure ?_)))
  rw [hx']
  first
    | exact wpAny_bind (wpAny_pure (wpAny_pure ⟨v, rfl, wpAny_pure h⟩))
    | exact wpAny_pure ⟨v, rfl, wpAny_pure h⟩
end
end
section
theorem kw_B17_1 : True := by
  k_with_none
  k_with "execs cons" => ((with_reducible refine seq_cons fun zQ1 ztk zhQ1 => ?_); try dsimp only)
  trivial
/-- what a formatter's dict says -/
structure FmE (es : List DictEntry) (wd : Int) (l x : Addr) : Prop where
  maxlen : ∃ t, getL "_maxlen" es = some (some (.int wd t))
  split : ∃ t, getL "_splitchars" es = some (some (.str " " t))
  lines : getL "_lines" es = some (some (.ref l))
  cur : getL "_current_line" es = some (some (.ref x))
  m1 : getL "_append_chunk" es = some none
  m2 : getL "newline" es = some none
  m3 : getL "_str" es = some none
/-- the lines that stand -/
structure Ln (lines : Array Value) (ls : List PySem.Str) : Prop where
  size : lines.size = ls.length
  at_ : ∀ (k : Nat) (y : PySem.Str), ls[k]? = some y → ∃ t : Tok, lines[k]? = some (Value.str y t)
theorem Ln.snoc {lines : Array Value} {ls : List PySem.Str} {y : PySem.Str} {t : Tok} (R : Ln lines ls) : Ln (lines.push (.str y t)) (ls ++ [y]) := by
  refine ⟨by simp [R.size], fun k p hk => ?_⟩
  by_cases q : k < ls.length
  · rw [List.getElem?_append_left q] at hk
    obtain ⟨a, c⟩ := R.at_ k p hk
    refine ⟨a, ?_⟩
    have : k < lines.size := R.size ▸ q
    rw [Array.getElem?_push, if_neg (by omega)]
    exact c
  · have q2 : k = ls.length := by
      obtain ⟨hl, _⟩ := List.getElem?_eq_some_iff.mp hk
      simp at hl; omega
    subst q2
    rw [List.getElem?_append_right (Nat.le_refl _)] at hk
    simp at hk
    subst hk
    exact ⟨t, by rw [← R.size]; simp⟩
theorem own_ne {p dp l x dx : Addr} (o1 : @LT.lt Nat _ dp p) (o2 : @LT.lt Nat _ p l) (o3 : @LT.lt Nat _ l dx) (o4 : @LT.lt Nat _ dx x) (o0 : @LE.le Nat _ 343 dp) : @Ne Nat p l ∧ @Ne Nat p x ∧ @Ne Nat p dx ∧ @Ne Nat p 162 ∧ @Ne Nat p 169 ∧ @Ne Nat dp l ∧ @Ne Nat dp x ∧ @Ne Nat dp dx ∧ @Ne Nat dp 162 ∧ @Ne Nat dp 169 ∧ @Ne Nat l x ∧ @Ne Nat l 162 ∧ @Ne Nat l 169 ∧ @Ne Nat x 162 ∧ @Ne Nat x 169 ∧ @Ne Nat dx 162 ∧ @Ne Nat dx 169 := by
  have m : ∀ {a b : Nat}, a < b → a ≠ b := Nat.ne_of_lt
  have a1 : @LT.lt Nat _ p dx := Nat.lt_trans o2 o3
  have a2 : @LT.lt Nat _ p x := Nat.lt_trans a1 o4
  have a3 : @LT.lt Nat _ l x := Nat.lt_trans o3 o4
  have b1 : @LT.lt Nat _ 169 dp := Nat.lt_of_lt_of_le (by decide) o0
  have b2 : @LT.lt Nat _ 162 dp := Nat.lt_of_lt_of_le (by decide) o0
  exact ⟨m o2, m a2, m a1, (m (Nat.lt_trans b2 o1)).symm, (m (Nat.lt_trans b1 o1)).symm, m (Nat.lt_trans o1 o2), m (Nat.lt_trans o1 a2), m (Nat.lt_trans o1 a1), (m b2).symm, (m b1).symm, m a3, (m (Nat.lt_trans b2 (Nat.lt_trans o1 o2))).symm, (m (Nat.lt_trans b1 (Nat.lt_trans o1 o2))).symm, (m (Nat.lt_trans b2 (Nat.lt_trans o1 a2))).symm, (m (Nat.lt_trans b1 (Nat.lt_trans o1 a2))).symm, (m (Nat.lt_trans b2 (Nat.lt_trans o1 a1))).symm, (m (Nat.lt_trans b1 (Nat.lt_trans o1 a1))).symm⟩
/-- a formatter's own objects -/
structure FmC where
  p : Addr
  dp : Addr
  l : Addr
  x : Addr
  dx : Addr
  eF : List DictEntry
  nF : Nat
  hs : Int
  tk0 : Tok
  de : Nat
noncomputable abbrev FmC.own (C : FmC) : List Addr := [C.p, C.dp, C.l, C.x, C.dx, 162, 169]
structure Fm (g h : Heap) (C : FmC) (st : List (PySem.Str × PySem.Str) × List PySem.Str) : Prop where
  p_ : h.get? C.p = some (instObj 116 C.dp)
  dp_ : h.get? C.dp = some (dictOf C.eF C.nF)
  l_ : ∃ lines nl, h.get? C.l = some (listO lines nl) ∧ Ln lines st.2
  x_ : ∃ items n, h.get? C.x = some (accO C.dx items n) ∧ Rws h items st.1 ∧ ∀ T, .ref T ∈ items → T ∉ C.own ∧ g.get? T = none
  d_ : ∃ t, h.get? C.dx = some (dictOf (es1 C.hs C.tk0 t) C.de)
  P_ : ∃ o, h.get? 162 = some o ∧ TabO o
  S_ : ∃ o, h.get? 169 = some o ∧ TabO o
noncomputable def chunkS (wd : Int) (st : List (PySem.Str × PySem.Str) × List PySem.Str) (word : PySem.Str) : List (PySem.Str × PySem.Str) × List PySem.Str :=
  if wd < ((st.1 ++ [((" " : PySem.Str), word)]).map wlen).sum ∧ st.1 ≠ [] then ([((" " : PySem.Str), word)], st.2 ++ [catAll st.1]) else (st.1 ++ [((" " : PySem.Str), word)], st.2)
theorem fillB17 (w : World) (h : Heap) (X : (Mine.hd.heap_39 w.params).In h) (e : PySem.Challenge.rw_wu0089_01.foot = PySem.Challenge.rw_wu0089_01.foot) : True := by
  revert X e; k_fill; intro _ _; trivial

theorem kw_B17_2 : True := by
  k_with "k_inst" => (refine' acc_inst ?q2a ?q2b ?q2c; (case q2a => k_asm); (case q2b => k_mem); (case q2c => k_mem))
  k_with "getMethod ref" => (k_here; (with_reducible show wpAny _ _ (getMethod (Value.ref _) (PySem.Str.ofString "append") _) _ _ _); k_dflt (refine' method_bi ?q6a ?q6b ?q6c ?q6d ?q6h ?q6i ?q6e ?q6f ?q6g ?_; (case q6a => k_asm); (case q6b => k_asm); (case q6c => k_inst); (case q6d => k_is); (case q6h => kernel_rfl); (case q6i => k_is); (case q6e => k_is); (case q6f => kernel_rfl); (case q6g => first | assumption | k_get); k_whole))
  k_with "call builtin:list.append" => (k_here; (with_reducible show wpAny _ _ (call (Value.builtin _) [Value.ref _, _]) _ _ _); k_dflt (refine' append_acc ?q4a ?q4b ?q4c ?q4d ?q4e ?q4f ?_ ?q4g; (case q4a => k_asm); (case q4b => k_asm); (case q4c => k_asm); (case q4e => k_is); (case q4f => k_upd); (case q4d => k_mem); (case q4g => assumption); k_whole); intro zh' zF' zN'; (try k_sweep))
  k_with "ktr_enter" => (refine' enter_fn ?q7a ?q7d ?q7e ?q7f ?q7g ?q7h ?q7i ?_ ?q7j ?q7k ?q7b ?q7c; (case q7g => assumption); (case q7a => assumption); (case q7e => k_is); (case q7f => k_is); (case q7d => decide); (case q7h => first | exact BindsTo.of_eq rfl | exact binds_K (Gd.here (by assumption)).X rfl (by k_is) rfl rfl rfl); (case q7j => decide); (case q7i => exact locs rfl); (case q7k => exact rfl); (case q7b => exact rfl); (case q7c => exact rfl); k_whole; rintro zg' zL' zh' zp' zl' zmean' zmg' zmb' zT' zX' zGN zF' zN' zl1 zK1 zhL'; (try dsimp only); (try k_fold))
  k_with "ks_enter" => (refine' enter_at ?q8a ?q8d ?q8e ?q8f ?q8g ?q8h ?q8i ?_ ?q8j ?q8k ?q8b ?q8c; (case q8g => assumption); (case q8a => assumption); (case q8e => k_is); (case q8f => k_is); (case q8d => decide); (case q8h => first | exact BindsTo.of_eq rfl | exact binds_K (Gd.here (by assumption)).X rfl (by k_is) rfl rfl rfl); (case q8j => decide); (case q8i => exact locs rfl); (case q8k => exact rfl); (case q8b => exact rfl); (case q8c => exact rfl); k_whole; rintro zg' zL' zh' zp' zl' zmean' zmg' zmb' zT' zX' zGN zF' zN' zl1 zK1 zhL'; (try dsimp only))
  k_with "callWith ref" => (k_here; (with_reducible show wpAny _ _ (callWith _ (Value.ref _) [] (backTo _ (starEach [] _)) []) _ _ _); k_dflt (refine' callWith_B0 ?q9a ?q9b ?q9c ?_; (case q9a => k_asm); (case q9b => k_mem); (case q9c => first | exact .inl rfl | exact .inr rfl)))
  k_with "getAttr ref" => (k_here; (with_reducible show wpAny _ _ (getAttr (Value.ref _) _ _) _ _ _); k_dflt (refine' get_ownA ?q10d ?q10e ?q10f ?q10l ?q10m ?q10n ?q10g ?q10h ?q10i ?q10j ?q10k ?_; (case q10d => k_asm); (case q10e => k_asm); (case q10f => (refine' acc_inst ?q10a ?q10b ?q10c; (case q10a => k_asm); (case q10b => k_mem); (case q10c => k_mem))); (case q10l => k_is); (case q10m => k_is); (case q10n => k_is); (case q10g => k_is); (case q10h => k_is); (case q10i => k_is); (case q10j => first | assumption | k_get); (case q10k => k_handed); k_whole))
  k_with "getMethod ref" => (k_here; (with_reducible show wpAny _ _ (getMethod (Value.ref _) _ _) _ _ _); k_dflt (refine' method_fnA ?q13a ?q13b ?q13c ?q13d ?q13h ?q13i ?q13e ?q13f ?q13g ?_; (case q13a => k_asm); (case q13b => k_asm); (case q13c => k_inst); (case q13d => k_is); (case q13h => kernel_rfl); (case q13i => k_is); (case q13e => k_is); (case q13f => k_is); (case q13g => first | assumption | k_get); k_whole))
  k_with "getAttr ref" => (k_here; (with_reducible show wpAny _ _ (getAttr (Value.ref _) _ _) _ _ _); k_dflt (refine' get_own ?q24a ?q24b ?q24c ?q24d ?q24e ?q24f ?q24g ?q24h ?q24i ?_; (case q24c => k_inst); (case q24a => k_asm); (case q24b => k_asm); (case q24d => k_is); (case q24e => k_is); (case q24f => k_is); (case q24g => k_is); (case q24h => with_reducible assumption); (case q24i => k_handed); k_whole))
  trivial
section
variable {w : World} {s : Shared} {p dp l x dx : Addr} {eF : List DictEntry} {nF : Nat} {wd : Int} {lines : Array Value} {nl : Nat} {items : Array Value} {n de : Nat} {hs : Int} {tk0 t0 tw : Tok} {Q E : Value → Shared → Prop} {oP oS : Obj} {ws : List (PySem.Str × PySem.Str)} {word : PySem.Str}
theorem kw_B17_3 : True := by
  k_with "call ref" => (k_here; (with_reducible show wpAny _ _ (call (Value.ref _) _) _ _ _); refine stop ?_)
  trivial
theorem chunk_spec (C : FmC) (hC : C = ⟨p, dp, l, x, dx, eF, nF, hs, tk0, de⟩) (FE : FmE eF wd l x) (o1 : @LT.lt Nat _ dp p) (o2 : @LT.lt Nat _ p l) (o3 : @LT.lt Nat _ l dx) (o4 : @LT.lt Nat _ dx x) (o0 : @LE.le Nat _ 343 dp) {ls : List PySem.Str} (hsm : Small ws) (hsm2 : Small (ws ++ [((" " : PySem.Str), word)])) (hlz : ls.length < 1000000)
    {g0 : Heap} (B0 : Bs w g0) (k0 : Keeps g0 s.heap) (n0 : ∀ a ∈ C.own, g0.get? a = none) (M : Fm g0 s.heap C (ws, ls))
    (hQ : ∀ h' gs' tk, KeepsBut C.own s.heap h' → Fm g0 h' C (chunkS wd (ws, ls) word) → (AllBare s.gens → AllBare gs') → Q .none { s with heap := h', gens := gs', toks := tk }) :
    wpAny (model P0 w) (At 460 2600) (call (.ref 113) [.ref p, .str " " t0, .str word tw]) Q E s := by
  obtain ⟨hp, hdp, ⟨lines, nl, hl, HL⟩, ⟨items, n, hx, R, hT⟩, ⟨t0', hd⟩, ⟨oP, hP, hTP⟩, ⟨oS, hS, hTS⟩⟩ := M
  subst hC
  have own := own_ne o1 o2 o3 o4 o0
  repeat (have kc := And.left own; replace own := And.right own)
  have G := Gd.of B0 k0 n0
  dsimp only [FmC.own] at G n0 hp hdp hl hx R hT hd hQ HL
  have hn : ∀ q ∈ [(p, instObj 116 dp), (dp, dictOf eF nF), (l, listO lines nl), (x, accO dx items n), (dx, dictOf (es1 hs tk0 t0') de), ((162 : Addr), oP), ((169 : Addr), oS)], s.heap.get? q.1 = some q.2 := by
    refine mem_all7 ?_ ?_ ?_ ?_ ?_ ?_ ?_ <;> assumption
  obtain ⟨⟨tm, fe1⟩, ⟨tsp, fe2⟩, fe3, fe4, fe5, fe6, fe7⟩ := FE
  refine wpAny_call ?_
  k_dflt ktr_enter
  k_steps
  unfold Stop
  have GN := (‹Gnd w s.heap _ _›)
  have F := (‹Fr _ _ _ _›)
  have N := (‹News _ _ _ _›)
  have X' := (‹(Mine.hd.heap_39 w.params).In _›)
  have S : Sep x dx := by constructor <;> omega
  have Rg := R.but (GN.kb _ (Keeps.refl _)) (fun T h => (hT T h).1)
  have kg := fun b o (e : g0.get? b = some o) => GN.kb _ (Keeps.refl _) b o (fun q => by rw [n0 b q] at e; cases e) (k0 b o e)
  have gnone : ∀ {h : Heap} {L : Addr} {m : PySem.Str → Option Value} {t : Addr}, Fr _ L h m → h.get? t = none → g0.get? t = none := fun F n => by
    rename_i t
    cases z : g0.get? t with
    | none => rfl
    | some o => have := F.keep _ _ (kg _ _ z); rw [n] at this; cases this

  have hsz : items.size ≤ sizeLine := by have := R.size; have := hsm.1; simp only [sizeLine]; omega
  refine push_W S GN.bs F N (by k_mem) (by k_mem) hsz (le_at rfl rfl rfl) (fun h1 t tk1 F1 k1 e1 et nt => ?_)
  have l2 := ne_new N nt
  have N1 := news_add F (news_but N (by k_upd) k1 e1) nt et
  have R1 := (Rg.keeps F1.keep).snoc et
  have gt1 := gnone F nt
  clear F N
  k_steps
  unfold Stop
  have hT1 : ∀ T, .ref T ∈ items.push (.ref t) → T ≠ 162 ∧ T ≠ 169 := by
    intro T h
    rcases Array.mem_push.mp h with h | h
    · exact ⟨fun e => (hT T h).1 (by rw [e]; simp), fun e => (hT T h).1 (by rw [e]; simp)⟩
    · cases h
      exact ⟨fun e => absurd e (by k_ne), fun e => absurd e (by k_ne)⟩
  refine len_W S hTP hsm2 GN.bs F1 N1 (by k_mem) (by k_mem) (by k_mem) R1 (fun T h => (hT1 T h).1) (le_at rfl rfl rfl) (fun h2 gs2 tt tk2 o2 F2 k2 e2 T2 b2 => ?_)
  have N2 := news_but N1 (by k_upd) k2 e2
  have bnd := sum_small _ hsm2.2.1
  have bnd2 := hsm2.1
  refine ⟨⟨bnd.1, by omega⟩, ?_⟩
  clear F1 N1
  k_steps
  · refine wpAny_For ?_
    k_steps
    have F := (‹Fr _ _ _ _›)
    have N := (‹News _ _ _ _›)
    refine str1_iter F N (fun I h3 oI hoI F3 N3 n3 ltI => ?_)
    clear F N
    refine forOnce ?_
    refine str1_next F3 N3 (.head _) hoI (fun h4 u4 tk4 o4 ho4 F4 k4 e4 => ?_)
    have N4 := news_but N3 (by k_upd) k4 e4
    clear F3 N3
    refine ⟨_, rfl, ?_⟩
    refine wpAny_assign_Name ?_
    k_steps
    refine wpAny_For ?_
    k_steps
    unfold Stop
    have F := (‹Fr _ _ _ _›)
    have N := (‹News _ _ _ _›)
    refine part_count_K (es := es1 hs tk0 t0') GN.bs F N (x := x) (dx := dx) (n := n + 1) (items := items.push (.ref t)) (by k_mem) (by k_mem) S.ne S.c (le_at rfl rfl rfl) (fun h5 t5 tk5 F5 N5 => ?_)
    clear F N
    k_steps
    have F := (‹Fr _ _ _ _›)
    have N := (‹News _ _ _ _›)
    have hit : items.size < 1000000 := by have := R.size; have := hsm.1; omega
    have q6 : @LT.lt Nat _ _ _ := F.ns.lt
    refine rng_iter (n := items.size) F N (‹IsRange _ _ _ _ _ _ _ _›) (by simp) rfl rfl hit (fun J h6 F6 N6 n6 ltJ => ?_)
    clear F
    by_cases hz : items.size = 0
    · refine forNone (rng_end rfl F6 N6 hz (.head _) (fun h7 F7 k7 => ⟨rfl, ?_⟩))
      have N7 : News _ _ h7 [(I, o4), (t, tupO [.str " " t0, .str word tw]), (p, instObj 116 dp), (dp, dictOf eF nF), (l, listO lines nl), (x, accO dx (items.push (.ref t)) (n + 1)), (dx, dictOf (es1 hs tk0 t0') de), ((162 : Addr), o2), ((169 : Addr), oS)] := news_drop N6 k7 (by
        refine mem_all9 ?_ ?_ ?_ ?_ ?_ ?_ ?_ ?_ ?_ <;> exact ⟨by k_mem, by k_ne⟩)
      clear F6 N6
      k_steps
      dsimp only
      refine str1_end rfl F7 N7 (.head _) ho4 (fun h8 F8 k8 => ⟨rfl, ?_⟩)
      have N8 : News _ _ h8 [(t, tupO [.str " " t0, .str word tw]), (p, instObj 116 dp), (dp, dictOf eF nF), (l, listO lines nl), (x, accO dx (items.push (.ref t)) (n + 1)), (dx, dictOf (es1 hs tk0 t0') de), ((162 : Addr), o2), ((169 : Addr), oS)] := news_drop N7 k8 (by
        refine mem_all8 ?_ ?_ ?_ ?_ ?_ ?_ ?_ ?_ <;> exact ⟨by k_mem, by k_ne⟩)
      clear F7 N7
      k_steps
      unfold Stop
      have F := (‹Fr _ _ _ _›)
      have N := (‹News _ _ _ _›)
      refine pop_W (its := items) (v := .ref t) S GN.bs F N (by k_mem) (by k_mem) (by simp [sizeLine]; omega) (le_at rfl rfl rfl) (fun h9 tk9 F9 k9 e9 => ?_)
      have N9 := news_but N (by k_upd) k9 e9
      clear F N
      k_steps
      unfold Stop
      have F := (‹Fr _ _ _ _›)
      have N := (‹News _ _ _ _›)
      refine push_W S GN.bs F N (by k_mem) (by k_mem) hsz (le_at rfl rfl rfl) (fun ha t2 tka Fa ka ea et2 nt2 => ?_)
      have l3 := ne_new N nt2
      have Na := news_add F (news_but N (by k_upd) ka ea) nt2 et2
      have Ra := (Rg.keeps Fa.keep).snoc et2
      have gt2 := gnone F nt2
      clear F N
      k_steps
      have F := (‹Fr _ _ _ _›)
      have N := (‹News _ _ _ _›)
      have hws : ws = [] := List.length_eq_zero_iff.mp (R.size ▸ hz)
      have ec : chunkS wd (ws, ls) word = (ws ++ [((" " : PySem.Str), word)], ls) := by unfold chunkS; rw [if_neg (fun q => q.2 hws)]
      refine hQ _ _ _ (gnd_but GN F.keep ?_) ?_ b2
      · exact fun q hq => .inl (List.mem_map_of_mem (f := Prod.fst) hq)
      · rw [ec]
        refine ⟨(N (p, _) (by k_mem)).1, (N (dp, _) (by k_mem)).1, ⟨lines, nl, (N (l, _) (by k_mem)).1, HL⟩, ⟨_, _, (N (x, _) (by k_mem)).1, Ra, ?_⟩, ⟨t0', (N (dx, _) (by k_mem)).1⟩, ⟨o2, (N ((162 : Addr), o2) (by k_mem)).1, T2⟩, ⟨oS, (N ((169 : Addr), oS) (by k_mem)).1, hTS⟩⟩
        intro T h
        rcases Array.mem_push.mp h with h | h
        · exact hT T h
        · cases h
          exact ⟨not_in7 (by k_ne) (by k_ne) (by k_ne) (by k_ne) (by k_ne) (by k_ne) (by k_ne), by assumption⟩
    · refine forOnce ?_
      refine rng_next F6 N6 (.head _) (by omega) (fun h7 tk7 u7 o7 F7 k7 e7 => ?_)
      have N7 := news_but N6 (by k_upd) k7 e7
      clear F6 N6
      refine ⟨_, rfl, ?_⟩
      refine wpAny_assign_Name ?_
      k_steps
      have F := (‹Fr _ _ _ _›)
      have N := (‹News _ _ _ _›)
      refine subTail_acc (X'.keeps F.keep) (acc_inst N (by k_mem) (by k_mem)) (by k_is) (getIdx_acc (v := .ref t) (X'.keeps F.keep) (acc_inst N (by k_mem) (by k_mem)) (by k_is) (by k_is) (by k_is) (by omega) (by omega) (by simp) ?_) (.inl rfl) (fun _ => rfl)
      clear F N
      k_steps
      unfold Stop
      have F := (‹Fr _ _ _ _›)
      have N := (‹News _ _ _ _›)
      refine popfrom_W (its := items) (v := .ref t) S GN.bs F N (by k_mem) (by k_mem) (by simp [sizeLine]; omega) (le_at rfl rfl rfl) (fun h8 q8 n8 tk8 F8 k8 e8 eq8 nq8 => ?_)
      have l8 := ne_new N nq8
      have N8 := news_add F (news_but N (by k_upd) k8 e8) nq8 eq8
      clear F N
      k_steps
      unfold Stop
      have F := (‹Fr _ _ _ _›)
      have N := (‹News _ _ _ _›)
      refine str_W S hTS hsm GN.bs F N (by k_mem) (by k_mem) (by k_mem) (Rg.keeps F.keep) (fun T h e => (hT T h).1 (by rw [e]; simp)) (le_at rfl rfl rfl) (fun h9 gs9 t9 tk9 o9 F9 k9 e9 T9 b9 => ?_)
      have N9 := news_but N (by k_upd) k9 e9
      clear F N
      dsimp only [StrBack]
      k_steps
      refine' append_K ?k1 ?k2 ?k3 ?_ ?z
      case k1 => k_asm
      case k2 => k_asm
      case k3 => k_upd
      case z => have := HL.size; simp only [sizeLine]; omega
      intro hb Fb Nb
      k_steps
      unfold Stop
      have F := (‹Fr _ _ _ _›)
      have N := (‹News _ _ _ _›)
      refine reset_W (r := q8) S GN.bs F N (by k_mem) (by k_mem) (by k_mem) (by k_ne) (by k_ne) (by simp only [sizeLine]; omega) (le_at rfl rfl rfl) (fun ha na ta tka Fa ka ea ea2 => ?_)
      have Na := news_but2 N (by k_upd) (by k_upd) S.ne ka ea ea2
      clear F N
      k_steps
      have F := (‹Fr _ _ _ _›)
      have N := (‹News _ _ _ _›)
      have hws : ws ≠ [] := fun q => hz (by have := R.size; rw [q] at this; simpa using this)
      have ec : chunkS wd (ws, ls) word = ([((" " : PySem.Str), word)], ls ++ [catAll ws]) := by unfold chunkS; rw [if_pos ⟨by assumption, hws⟩]
      refine hQ _ _ _ (gnd_but GN F.keep ?_) ?_ (fun z => b9 (b2 z))
      · exact fun q hq => .inl (List.mem_map_of_mem (f := Prod.fst) hq)
      · rw [ec]
        refine ⟨(N (p, _) (by k_mem)).1, (N (dp, _) (by k_mem)).1, ⟨lines.push (.str (catAll ws) t9), nl + 1, (N (l, _) (by k_mem)).1, HL.snoc⟩, ⟨#[.ref t], na, (N (x, _) (by k_mem)).1, ?_, ?_⟩, ⟨ta, (N (dx, _) (by k_mem)).1⟩, ⟨o2, (N ((162 : Addr), o2) (by k_mem)).1, T2⟩, ⟨o9, (N ((169 : Addr), o9) (by k_mem)).1, T9⟩⟩
        · exact (show Rws ha #[] [] from ⟨rfl, fun k p h => by simp at h⟩).snoc (N (t, _) (by k_mem)).1
        · intro T h
          have h : T = t := by simpa using h
          subst h
          exact ⟨not_in7 (by k_ne) (by k_ne) (by k_ne) (by k_ne) (by k_ne) (by k_ne) (by k_ne), by assumption⟩
  · have F := (‹Fr _ _ _ _›)
    have N := (‹News _ _ _ _›)
    have ec : chunkS wd (ws, ls) word = (ws ++ [((" " : PySem.Str), word)], ls) := by unfold chunkS; rw [if_neg (fun q => absurd q.1 (by assumption))]
    refine hQ _ _ _ (gnd_but GN F.keep ?_) ?_ b2
    · exact fun q hq => .inl (List.mem_map_of_mem (f := Prod.fst) hq)
    · rw [ec]
      refine ⟨(N (p, _) (by k_mem)).1, (N (dp, _) (by k_mem)).1, ⟨lines, nl, (N (l, _) (by k_mem)).1, HL⟩, ⟨_, _, (N (x, _) (by k_mem)).1, (Rg.keeps F.keep).snoc (N (t, _) (by k_mem)).1, ?_⟩, ⟨t0', (N (dx, _) (by k_mem)).1⟩, ⟨o2, (N ((162 : Addr), o2) (by k_mem)).1, T2⟩, ⟨oS, (N ((169 : Addr), oS) (by k_mem)).1, hTS⟩⟩
      intro T h
      rcases Array.mem_push.mp h with h | h
      · exact hT T h
      · cases h
        exact ⟨not_in7 (by k_ne) (by k_ne) (by k_ne) (by k_ne) (by k_ne) (by k_ne) (by k_ne), by assumption⟩
end
end
section
open Builtin.ObjectAttr
section
variable {w : World} {A : Around} {E : Value → Shared → Prop} {s : Shared} {env : Env}
theorem star_args {fv : Value} {x : Sem Value} {Q : Args → Shared → Prop}
    (h : wpAny (model P0 w) A x (fun tv s₃ => ∃ T items, tv = .ref T ∧ s₃.heap.get? T = some (tupO items) ∧ items.length ≤ 100 ∧ ∀ h', Keeps s₃.heap h' → Q ⟨items, []⟩ { s₃ with heap := h' }) E s) :
    wpAny (model P0 w) A (evalArgs fv true [(true, x)] []) Q E s := by
  unfold evalArgs
  refine wpAny_bind (wpAny_mono h (fun tv s₃ h₃ => wpAny_bind (wpAny_pure ?_)) fun _ _ e => e)
  obtain ⟨T, items, rfl, eT, hl, hQ⟩ := h₃
  dsimp only
  refine wpAny_holding ?_
  simp only [List.all_nil, if_true, List.filterMap_nil, List.map_nil]
  refine wpAny_bind ?_
  refine wpAny_pure ?_
  refine wpAny_bind ?_
  refine wpAny_bind ?_
  unfold notIterableAtAll
  refine wpAny_bind (wpAny_specialOf (T := "tuple") ⟨_, eT, rfl⟩ slot_tuple_iter.lookup ?_)
  simp only [Option.isSome_some, if_true]
  refine wpAny_pure ?_
  simp only [Bool.false_eq_true, if_false]
  refine wpAny_holding ?_
  refine wpAny_collect_seq T (.inr rfl) eT rfl rfl (fun h' k => ?_) (by simp [sizeLine]; omega)
  refine wpAny_pure ?_
  simpa using hQ h' k
theorem star_callWith {pos : Pos} {q f x : Addr} {t : Sem Value} {Q : Value → Shared → Prop}
    (h : wpAny (model P0 w) A t (fun tv s₃ => ∃ T items of fd, tv = .ref T ∧ s₃.heap.get? T = some (tupO items) ∧ items.length ≤ 100 ∧ s₃.heap.get? q = some (methodObj (.ref f) (.ref x)) ∧ s₃.heap.get? f = some of ∧ of.data = .func fd ∧
      ∀ h', Keeps s₃.heap h' → wpAny (model P0 w) A (call (.ref q) items) Q E { s₃ with heap := h' }) E s) :
    wpAny (model P0 w) A (callWith pos (.ref q) [] [(true, t)] []) Q E s := by
  unfold callWith
  refine wpAny_bind (wpAny_holding (star_args (wpAny_mono h (fun tv s₃ h₃ => ?_) fun _ _ e => e)))
  obtain ⟨T, items, of, fd, rfl, eT, hl, eq, ef, hd, hQ⟩ := h₃
  refine ⟨T, items, rfl, eT, hl, fun h' k => wpAny_bind (wpAny_standAt ?_)⟩
  have L : Looks (model P0 w) h' (keeperOf (.ref q)) .boundFrame := by
    unfold keeperOf
    refine Looks.andThen (a := methodObj (.ref f) (.ref x)) (Looks.ld (part := none) (k _ _ eq)) ?_
    refine Looks.andThen (a := of) (Looks.ld (part := none) (k _ _ ef)) ?_
    rw [hd]; exact .now
  dsimp only
  refine wpAny_bind (Looks.here (s := { s₃ with heap := h' }) L ?_)
  dsimp only [List.any_cons, Bool.true_or]
  refine wpAny_bind (wpAny_operating (wpAny_mono (hQ h' k) (fun r s₄ h₄ => ?_) fun _ _ e => e))
  exact wpAny_bind (wpAny_holding (wpAny_point (wpAny_pure h₄)))
theorem star_call {o e : Expr} {name : PySem.Str} {apos pos p1 : Pos} {Q : Value → Shared → Prop} (hb : attributeBase o name env (eval o env) = eval o env)
    (h : wpAny (model P0 w) A (eval o env) (fun ov s₁ => wpAny (model P0 w) A (getAttr ov name true) (fun fv s₂ => wpAny (model P0 w) A (callWith pos fv [] [(true, do let v ← eval e env; standAt pos; pure v)] []) Q E s₂) E s₁) E s) :
    wpAny (model P0 w) A (eval (.Call (.Attribute o name apos) [.Starred e p1] [] pos) env) Q E s := by
  rw [arm_eval_Call, hb]
  refine wpAny_bind (wpAny_mono h (fun ov s₁ h₁ => wpAny_bind (wpAny_standAt ?_)) fun _ _ e => e)
  unfold methodCall
  refine wpAny_bind (wpAny_holding ?_)
  show wpAny _ _ (do pure (← getAttr ov name true, [])) _ _ _
  refine wpAny_bind (wpAny_mono h₁ (fun fv s₂ h₂ => wpAny_pure ?_) fun _ _ e => e)
  dsimp only
  refine wpAny_bind ?_
  show wpAny _ _ (pure pos) _ _ _
  exact wpAny_pure h₂
end
section
variable {w : World} {A : Around} {E : Value → Shared → Prop} {s : Shared} {K : Frag} {x : Addr} {ox : Obj} {od : Option Obj} {name : PySem.Str} {expr : Bool} {Q : Value → Shared → Prop}
theorem get_bindA {g a : Value} (X : K.In s.heap) (I : InstAt s.heap x ox 200 od) (hm : mroIn K 200 (.type "list") = some true) (hga : findIn K (.ref 200) "__getattribute__" = some (some (.builtin "list.__getattribute__")))
    (hk : findIn K (.ref 200) "__getattr__" = some none) (hf : findObj K 200 od name = some (.bind g a))
    (h : ∀ {A' : Around} {E' : Value → Shared → Prop}, wpAny (model P0 w) A' (call g [a, .ref x, .ref 200]) (fun v s' => handedIn v = true ∧ Q v s') E' { s with toks := s.toks + 1 }) : wpAny (model P0 w) A (getAttr (.ref x) name expr) Q E s := by
  obtain ⟨hp, gg, d, t, os⟩ := s
  have L0 := I.type (M := model P0 w)
  have L1 := looks_findIn (M := model P0 w) X hga
  have L2 := looks_findIn (M := model P0 w) X hk
  have L3 := looks_find (M := model P0 w) X I hf
  unfold getAttr getAttrBy
  refine wpAny_bind (wpAny_mkText (wpAny_holding (wpAny_bind (L0.at (wpAny_bind (L1.at ?_))))))
  show wpAny _ _ (getAttrByItsOwn (.ref x) (.str name t) (.ref 200) (.builtin "list.__getattribute__") true expr) _ _ _
  unfold getAttrByItsOwn hookBefore callGetattribute
  refine wpAny_bind ?_
  show wpAny _ _ (typeLookup (.ref 200) "__getattr__") _ _ _
  refine L2.at ?_
  refine wpAny_bind (wpAny_attempt (wpAny_holding ?_))
  rw [show (expr && onTheHeap (.builtin "list.__getattribute__")) = false from by cases expr <;> rfl, if_neg (by decide)]
  unfold boundAndCalled
  refine wpAny_bind (wpAny_of_eq (PySem.F.slot_list_getattribute.bind _) ?_)
  refine call_bi_slot (owner := "list") (n := "__getattribute__") PySem.F.slot_list_getattribute.plain (by decide +kernel) (by decide +kernel) (acc_isList X I hm) PySem.F.entry_list_ga (PySem.F.args_list_getattribute_2 _ _) ?_
  unfold Builtin.«object.__getattribute__»
  refine wpAny_bind (wpAny_pure ?_)
  dsimp only
  refine wpAny_bind (wpAny_pure ?_)
  refine wpAny_bind (L0.at (wpAny_bind (L3.at ?_)))
  dsimp only
  unfold bindTo
  refine wpAny_bind (wpAny_holding (wpAny_mono (h (A' := _)) (fun v s' hv => ?_) fun _ _ e => e))
  refine wpAny_pure ⟨v, rfl, ?_⟩
  show wpAny _ _ (handedOut v) _ _ _
  rw [handedOut_of hv.1]; exact wpAny_pure hv.2
end
end
section
theorem kw_B18_1 : True := by
  k_with_none
  k_with "execs cons" => ((with_reducible refine seq_cons fun zQ1 ztk zhQ1 => ?_); try dsimp only)
  trivial
theorem Rws.but' {h h' : Heap} {items : Array Value} {ws : List (PySem.Str × PySem.Str)} {S : List Addr} (R : Rws h items ws) (k : KeepsBut S h h') (n : ∀ T, .ref T ∈ items → T ∉ S ∨ h'.get? T = h.get? T) : Rws h' items ws :=
  ⟨R.size, fun i p e => let ⟨T, t1, t2, a, b⟩ := R.at_ i p e; ⟨T, t1, t2, a, by
    rcases n T (by obtain ⟨hh, q⟩ := Array.getElem?_eq_some_iff.mp a; rw [← q]; exact Array.getElem_mem hh) with q | q
    · exact k _ _ q b
    · rw [q]; exact b⟩⟩
theorem Rws.pop {h : Heap} {its : Array Value} {v : Value} {ws : List (PySem.Str × PySem.Str)} {q : PySem.Str × PySem.Str} (R : Rws h (its.push v) (ws ++ [q])) : Rws h its ws ∧ ∃ T t1 t2, v = .ref T ∧ h.get? T = some (tupO [.str q.1 t1, .str q.2 t2]) := by
  have hs : its.size = ws.length := by have := R.size; simpa using this
  refine ⟨⟨hs, fun k p e => ?_⟩, ?_⟩
  · have hk : k < ws.length := (List.getElem?_eq_some_iff.mp e).1
    obtain ⟨T, t1, t2, a, b⟩ := R.at_ k p (by rw [List.getElem?_append_left hk]; exact e)
    refine ⟨T, t1, t2, ?_, b⟩
    rw [Array.getElem?_push, if_neg (by omega)] at a
    exact a
  · obtain ⟨T, t1, t2, a, b⟩ := R.at_ ws.length q (by simp)
    refine ⟨T, t1, t2, ?_, b⟩
    rw [← hs] at a
    simpa using a
theorem snoc_of {items : Array Value} (hz : 0 < items.size) : ∃ (its : Array Value) (v1 : Value), items = its.push v1 := by
  obtain ⟨l⟩ := items
  have hne : l ≠ [] := by intro q; subst q; simp at hz
  refine ⟨⟨l.dropLast⟩, l.getLast hne, ?_⟩
  apply Array.ext'
  simp [List.dropLast_concat_getLast]
theorem pair_ne {w : World} {s : Shared} {A : Around} {E : Value → Shared → Prop} {Q : Value → Shared → Prop} {a b : Addr} {f v f2 : PySem.Str} {t1 t2 t3 t4 : Tok} (ha : s.heap.get? a = some (tupO [.str f t1, .str v t2])) (hb : s.heap.get? b = some (tupO [.str f2 t3, .str "" t4])) (hv : v ≠ "") (of : PyData.strOk f = true) (ov : PyData.strOk v = true) (of2 : PyData.strOk f2 = true)
    (hu : A.units + 64 < cLine) (h : Q (.bool true) s) : wpAny (model P0 w) A (compareOp .NotEq (.ref a) (.ref b)) Q E s := by
  have ra : Reads s.heap (.ref a) (.tuple [.str f, .str v]) _ := .tuple ha rfl rfl (.cons (.str f t1) (.cons (.str v t2) .nil))
  have rb : Reads s.heap (.ref b) (.tuple [.str f2, .str ""]) _ := .tuple hb rfl rfl (.cons (.str f2 t3) (.cons (.str "" t4) .nil))
  have la : (PyData.tuple [.str f, .str v]).canLay0 = true := by simp [PyData.canLay0, PyData.canLayAll0, of, ov]
  have lb : (PyData.tuple [.str f2, .str ""]).canLay0 = true := by simp [PyData.canLay0, PyData.canLayAll0, of2]; decide +kernel
  have da : (PyData.tuple [.str f, .str v]).depth ≤ 64 := Nat.le_of_ble_eq_true rfl
  refine PySem.SeqAt.compareNe_reads ra rb la lb (by have : min (PyData.tuple [.str f, .str v]).depth (PyData.tuple [.str f2, .str ""]).depth ≤ (PyData.tuple [.str f, .str v]).depth := Nat.min_le_left _ _; omega) ?_
  have : PyData.eqv (.tuple [.str f, .str v]) (.tuple [.str f2, .str ""]) = false := by simp [PyData.eqv, PyData.eqvAll, hv]
  rw [this]; exact h
theorem fillB18 (w : World) (h : Heap) (X : (Mine.hd.heap_39 w.params).In h) (e : PySem.Challenge.rw_wu0089_01.foot = PySem.Challenge.rw_wu0089_01.foot) : True := by
  revert X e; k_fill; intro _ _; trivial

theorem kw_B18_2 : True := by
  k_with "k_inst" => (refine' acc_inst ?q2a ?q2b ?q2c; (case q2a => k_asm); (case q2b => k_mem); (case q2c => k_mem))
  k_with "getMethod ref" => (k_here; (with_reducible show wpAny _ _ (getMethod (Value.ref _) (PySem.Str.ofString "append") _) _ _ _); k_dflt (refine' method_bi ?q6a ?q6b ?q6c ?q6d ?q6h ?q6i ?q6e ?q6f ?q6g ?_; (case q6a => k_asm); (case q6b => k_asm); (case q6c => k_inst); (case q6d => k_is); (case q6h => kernel_rfl); (case q6i => k_is); (case q6e => k_is); (case q6f => kernel_rfl); (case q6g => first | assumption | k_get); k_whole))
  k_with "call builtin:list.append" => (k_here; (with_reducible show wpAny _ _ (call (Value.builtin _) [Value.ref _, _]) _ _ _); k_dflt (refine' append_acc ?q4a ?q4b ?q4c ?q4d ?q4e ?q4f ?_ ?q4g; (case q4a => k_asm); (case q4b => k_asm); (case q4c => k_asm); (case q4e => k_is); (case q4f => k_upd); (case q4d => k_mem); (case q4g => assumption); k_whole); intro zh' zF' zN'; (try k_sweep))
  k_with "ktr_enter" => (refine' enter_fn ?q7a ?q7d ?q7e ?q7f ?q7g ?q7h ?q7i ?_ ?q7j ?q7k ?q7b ?q7c; (case q7g => assumption); (case q7a => assumption); (case q7e => k_is); (case q7f => k_is); (case q7d => decide); (case q7h => first | exact BindsTo.of_eq rfl | exact binds_K (Gd.here (by assumption)).X rfl (by k_is) rfl rfl rfl); (case q7j => decide); (case q7i => exact locs rfl); (case q7k => exact rfl); (case q7b => exact rfl); (case q7c => exact rfl); k_whole; rintro zg' zL' zh' zp' zl' zmean' zmg' zmb' zT' zX' zGN zF' zN' zl1 zK1 zhL'; (try dsimp only); (try k_fold))
  k_with "ks_enter" => (refine' enter_at ?q8a ?q8d ?q8e ?q8f ?q8g ?q8h ?q8i ?_ ?q8j ?q8k ?q8b ?q8c; (case q8g => assumption); (case q8a => assumption); (case q8e => k_is); (case q8f => k_is); (case q8d => decide); (case q8h => first | exact BindsTo.of_eq rfl | exact binds_K (Gd.here (by assumption)).X rfl (by k_is) rfl rfl rfl); (case q8j => decide); (case q8i => exact locs rfl); (case q8k => exact rfl); (case q8b => exact rfl); (case q8c => exact rfl); k_whole; rintro zg' zL' zh' zp' zl' zmean' zmg' zmb' zT' zX' zGN zF' zN' zl1 zK1 zhL'; (try dsimp only))
  k_with "callWith ref" => (k_here; (with_reducible show wpAny _ _ (callWith _ (Value.ref _) [] (backTo _ (starEach [] _)) []) _ _ _); k_dflt (refine' callWith_B0 ?q9a ?q9b ?q9c ?_; (case q9a => k_asm); (case q9b => k_mem); (case q9c => first | exact .inl rfl | exact .inr rfl)))
  k_with "getAttr ref" => (k_here; (with_reducible show wpAny _ _ (getAttr (Value.ref _) _ _) _ _ _); k_dflt (refine' get_ownA ?q10d ?q10e ?q10f ?q10l ?q10m ?q10n ?q10g ?q10h ?q10i ?q10j ?q10k ?_; (case q10d => k_asm); (case q10e => k_asm); (case q10f => (refine' acc_inst ?q10a ?q10b ?q10c; (case q10a => k_asm); (case q10b => k_mem); (case q10c => k_mem))); (case q10l => k_is); (case q10m => k_is); (case q10n => k_is); (case q10g => k_is); (case q10h => k_is); (case q10i => k_is); (case q10j => first | assumption | k_get); (case q10k => k_handed); k_whole))
  k_with "getMethod ref" => (k_here; (with_reducible show wpAny _ _ (getMethod (Value.ref _) _ _) _ _ _); k_dflt (refine' method_fnA ?q13a ?q13b ?q13c ?q13d ?q13h ?q13i ?q13e ?q13f ?q13g ?_; (case q13a => k_asm); (case q13b => k_asm); (case q13c => k_inst); (case q13d => k_is); (case q13h => kernel_rfl); (case q13i => k_is); (case q13e => k_is); (case q13f => k_is); (case q13g => first | assumption | k_get); k_whole))
  k_with "getAttr ref" => (k_here; (with_reducible show wpAny _ _ (getAttr (Value.ref _) _ _) _ _ _); k_dflt (refine' get_own ?q24a ?q24b ?q24c ?q24d ?q24e ?q24f ?q24g ?q24h ?q24i ?_; (case q24c => k_inst); (case q24a => k_asm); (case q24b => k_asm); (case q24d => k_is); (case q24e => k_is); (case q24f => k_is); (case q24g => k_is); (case q24h => with_reducible assumption); (case q24i => k_handed); k_whole))
  trivial
section
variable {w : World} {s : Shared} {p dp l x dx : Addr} {eF : List DictEntry} {nF : Nat} {wd : Int} {n de : Nat} {hs : Int} {tk0 t0 : Tok} {Q E : Value → Shared → Prop} {ws0 : List (PySem.Str × PySem.Str)} {f v : PySem.Str}
theorem kw_B18_3 : True := by
  k_with "call ref" => (k_here; (with_reducible show wpAny _ _ (call (Value.ref _) _) _ _ _); refine stop ?_)
  trivial
theorem newline_spec (C : FmC) (hC : C = ⟨p, dp, l, x, dx, eF, nF, hs, tk0, de⟩) (FE : FmE eF wd l x) (o1 : @LT.lt Nat _ dp p) (o2 : @LT.lt Nat _ p l) (o3 : @LT.lt Nat _ l dx) (o4 : @LT.lt Nat _ dx x) (o0 : @LE.le Nat _ 343 dp) {ls : List PySem.Str} (hsm : Small (ws0 ++ [(f, v)])) (hlz : ls.length < 1000000)
    (hv : v ≠ "") (of : PyData.strOk f = true) (ov : PyData.strOk v = true) (hpos : 0 < ((ws0 ++ [(f, v)]).map wlen).sum) (hns : Txt.isspace (catAll (ws0 ++ [(f, v)])) = false)
    {g0 : Heap} (B0 : Bs w g0) (k0 : Keeps g0 s.heap) (n0 : ∀ a ∈ C.own, g0.get? a = none) (M : Fm g0 s.heap C (ws0 ++ [(f, v)], ls))
    (hQ : ∀ h' gs' tk, KeepsBut C.own s.heap h' → Fm g0 h' C ([], ls ++ [catAll (ws0 ++ [(f, v)])]) → (AllBare s.gens → AllBare gs') → Q .none { s with heap := h', gens := gs', toks := tk }) :
    wpAny (model P0 w) (At 480 2800) (call (.ref 78) [.ref p]) Q E s := by
  obtain ⟨hp, hdp, ⟨lines, nl, hl, HL⟩, ⟨items, n, hx, R, hT⟩, ⟨t0', hd⟩, ⟨oP, hP, hTP⟩, ⟨oS, hS, hTS⟩⟩ := M
  subst hC
  have own := own_ne o1 o2 o3 o4 o0
  repeat (have kc := And.left own; replace own := And.right own)
  dsimp only [FmC.own] at n0 hp hdp hl hx R hT hd hQ HL
  obtain ⟨its, v1, rfl⟩ := snoc_of (items := items) (by have := R.size; simp at this; omega)
  obtain ⟨R0, T, t1, t2, rfl, eT⟩ := R.pop
  have hTT := hT T (by simp)
  have G : Gd w s.heap [T, p, dp, l, x, dx, 162, 169] := Gd.of B0 k0 (fun a ha => by
    rcases List.mem_cons.mp ha with rfl | ha
    · exact hTT.2
    · exact n0 a ha)
  have hn : ∀ q ∈ [(T, tupO [.str f t1, .str v t2]), (p, instObj 116 dp), (dp, dictOf eF nF), (l, listO lines nl), (x, accO dx (its.push (.ref T)) n), (dx, dictOf (es1 hs tk0 t0') de), ((162 : Addr), oP), ((169 : Addr), oS)], s.heap.get? q.1 = some q.2 := by
    refine mem_all8 ?_ ?_ ?_ ?_ ?_ ?_ ?_ ?_ <;> assumption
  have hTne := hTT.1
  have zT := ni7 hTne
  have ta := zT.1
  have tb := zT.2.1
  have tc := zT.2.2.1
  have td := zT.2.2.2.1
  have te := zT.2.2.2.2.1
  have tf := zT.2.2.2.2.2.1
  have tg := zT.2.2.2.2.2.2
  clear zT
  obtain ⟨⟨tm, fe1⟩, ⟨tsp, fe2⟩, fe3, fe4, fe5, fe6, fe7⟩ := FE
  refine wpAny_call ?_
  k_dflt ktr_enter
  k_steps
  unfold Stop
  rename Gnd w s.heap _ _ => GN
  rename Fr _ _ _ _ => F
  rename News _ _ _ _ => N
  rename (Mine.hd.heap_39 w.params).In _ => X'
  have S : Sep x dx := by constructor <;> omega
  have isz : its.size < 1000000 := by have := R0.size; have := hsm.1; simp at this; omega
  refine pop_W (its := its) (v := .ref T) S GN.bs F N (by k_mem) (by k_mem) (by simp [sizeLine]; omega) (le_at rfl rfl rfl) (fun h1 tk1 F1 k1 e1 => ?_)
  have N1 := news_but N (by k_upd) k1 e1
  clear F N
  k_steps
  rename Fr _ _ _ _ => F
  rename News _ _ _ _ => N
  refine pair_ne (N (T, _) (by k_mem)).1 (N (_, tupO _) (.head _)).1 hv of ov (by decide +kernel) (Nat.le_of_ble_eq_true rfl) ?_
  k_steps
  refine star_call rfl ?_
  k_steps
  rename Fr _ _ _ _ => F
  rename News _ _ _ _ => N
  refine get_bindA (X'.keeps F.keep) (acc_inst N (by k_mem) (by k_mem)) (by k_is) (by k_is) (by k_is) (findObj_fn (f := 144) (by k_is) (by k_is) (by k_is) (by k_is) (by decide +kernel) rfl) (fun {A' E'} => wpAny_call (fn_get (X'.keeps F.keep) (by k_is) ⟨rfl, ?_⟩))
  have q1 : @LT.lt Nat _ _ _ := F.ns.lt
  have F2 := F.push (methodObj (.ref 144) (.ref x))
  have N2 := News.push F N (methodObj (.ref 144) (.ref x))
  clear F N
  refine star_callWith (f := 144) (x := x) ?_
  refine wpAny_bind ?_
  k_steps
  refine wpAny_bind (wpAny_standAt (wpAny_pure ?_))
  rename Fr _ _ _ _ => F
  rename News _ _ _ _ => N
  obtain ⟨o144, fd144, e144, d144⟩ : ∃ o fd, (Mine.hd.heap_39 w.params).lookup 144 = some o ∧ o.data = .func fd := ⟨_, _, rfl, rfl⟩
  refine ⟨T, [.str f t1, .str v t2], o144, fd144, rfl, (N (T, _) (by k_mem)).1, by simp, (N (_, methodObj (.ref 144) (.ref x)) (by k_mem)).1, (X'.keeps F.keep) _ _ e144, d144, fun h3 k3 => ?_⟩
  have F3 := fr_keeps F k3
  have N3 := news_keeps N k3
  clear F N
  refine call_meth N3 (q := _) (f := .ref 144) (self := .ref x) (by k_mem) ?_
  refine push_codeW S GN.bs F3 N3 (by k_mem) (by k_mem) (by simp only [sizeLine]; omega) (le_at rfl rfl rfl) (fun h4 t tk4 F4 k4 e4 et nt => ?_)
  have l4 := ne_new N3 nt
  have N4 := news_add F3 (news_but N3 (by k_upd) k4 e4) nt et
  clear F3 N3
  dsimp only
  have Rh : ∀ {h : Heap} {L : Addr} {m : PySem.Str → Option Value}, Fr _ L h m → h.get? T = some (tupO [.str f t1, .str v t2]) → Rws h its ws0 := fun {h} {L} {m} F eh => R0.but' (fun b o nb e => F.keep b o (GN.kb _ (Keeps.refl _) b o nb e)) (fun T' h' => by
    by_cases q : T' = T
    · exact .inr (by rw [q, eh, eT])
    · refine .inl ?_
      exact fun z => (List.mem_cons.mp z).elim q (hT T' (Array.mem_push_of_mem _ h')).1)
  have hTt : ∀ T', .ref T' ∈ its.push (.ref t) → T' ∉ [p, dp, l, x, dx, 162, 169] := by
    intro T' h
    rcases Array.mem_push.mp h with h | h
    · exact (hT T' (by simp [h])).1
    · cases h
      exact not_in7 (by k_ne) (by k_ne) (by k_ne) (by k_ne) (by k_ne) (by k_ne) (by k_ne)
  k_steps
  unfold Stop
  rename Fr _ _ _ _ => F
  rename News _ _ _ _ => N
  have bnd := sum_small _ hsm.2.1
  have bnd2 := hsm.1
  refine len_W S hTP hsm GN.bs F N (by k_mem) (by k_mem) (by k_mem) ((Rh F (N (T, _) (by k_mem)).1).snoc (N (t, _) (by k_mem)).1) (fun T' h e => hTt T' h (by rw [e]; simp)) (le_at rfl rfl rfl) (fun h5 gs5 tt5 tk5 o5 F5 k5 e5 T5 b5 => ?_)
  have N5 := news_but N (by k_upd) k5 e5
  clear F N
  refine ⟨⟨bnd.1, by omega⟩, ?_⟩
  k_steps
  unfold Stop
  rename Fr _ _ _ _ => F
  rename News _ _ _ _ => N
  have Rc : ∀ {h : Heap} {L : Addr} {m : PySem.Str → Option Value}, Fr _ L h m → h.get? T = some (tupO [.str f t1, .str v t2]) → h.get? t = some (tupO [.str f t1, .str v t2]) → Rws h (its.push (.ref t)) (ws0 ++ [(f, v)]) := fun F a b => (Rh F a).snoc b
  refine at_le (le_at rfl rfl rfl) (onlyws_spec (n := n + 1 + 1) (hs := hs) (tk0 := tk0) (t0 := t0') (de := de) S T5 hTS hsm (gdN GN.bs F N (S := [x, dx, 162, 169]) (by
    refine mem_all4 ?_ ?_ ?_ ?_ <;> exact ⟨_, by k_mem⟩)) (N (x, _) (by k_mem)).1 (N (dx, _) (by k_mem)).1 (N ((162 : Addr), o5) (by k_mem)).1 (N ((169 : Addr), oS) (by k_mem)).1 (Rc F (N (T, _) (by k_mem)).1 (N (t, _) (by k_mem)).1) (fun T' h => by
      have := hTt T' h
      simp only [List.mem_cons, List.not_mem_nil, or_false, not_or] at this ⊢
      exact ⟨this.2.2.2.1, this.2.2.2.2.1, this.2.2.2.2.2⟩) hpos hns (fun h6 gs6 tk6 oa ob k6 ea Ta eb Tb b6 => ?_))
  have F6 := fr_but2 F N (a := 162) (b := 169) (by k_mem) (by k_mem) k6
  have N6 := news_but2 N (by k_upd) (by k_upd) (by decide) k6 ea eb
  clear F N
  k_steps
  unfold Stop
  rename Fr _ _ _ _ => F
  rename News _ _ _ _ => N
  refine str_W S Tb hsm GN.bs F N (by k_mem) (by k_mem) (by k_mem) (Rc F (N (T, _) (by k_mem)).1 (N (t, _) (by k_mem)).1) (fun T' h e => hTt T' h (by rw [e]; simp)) (le_at rfl rfl rfl) (fun h9 gs9 t9 tk9 o9 F9 k9 e9 T9 b9 => ?_)
  have N9 := news_but N (by k_upd) k9 e9
  clear F N
  dsimp only [StrBack]
  k_steps
  refine' append_K ?k1 ?k2 ?k3 ?_ ?z
  case k1 => k_asm
  case k2 => k_asm
  case k3 => k_upd
  case z => have := HL.size; simp only [sizeLine]; omega
  intro hb Fb Nb
  k_steps
  unfold Stop
  rename Fr _ _ _ _ => F
  rename News _ _ _ _ => N
  refine reset0_W S GN.bs F N (by k_mem) (by k_mem) (by simp [sizeLine]; omega) (le_at rfl rfl rfl) (fun hc nc tc' tkc Fc kc ec ec2 => ?_)
  have Nc := news_but2 N (by k_upd) (by k_upd) S.ne kc ec ec2
  clear F N
  k_steps
  rename Fr _ _ _ _ => F
  rename News _ _ _ _ => N
  refine hQ _ _ _ (gnd_but GN F.keep ?_) ?_ (fun z => b9 (b6 (b5 z)))
  · refine mem_all8 ?_ ?_ ?_ ?_ ?_ ?_ ?_ ?_
    · exact .inr ⟨eT, (N (T, _) (by k_mem)).1⟩
    all_goals (left; simp)
  · exact ⟨(N (p, _) (by k_mem)).1, (N (dp, _) (by k_mem)).1, ⟨lines.push (.str (catAll (ws0 ++ [(f, v)])) t9), nl + 1, (N (l, _) (by k_mem)).1, HL.snoc⟩, ⟨#[], nc, (N (x, _) (by k_mem)).1, ⟨rfl, fun k p h => by simp at h⟩, fun T h => by simp at h⟩, ⟨tc', (N (dx, _) (by k_mem)).1⟩, ⟨oa, (N ((162 : Addr), oa) (by k_mem)).1, Ta⟩, ⟨o9, (N ((169 : Addr), o9) (by k_mem)).1, T9⟩⟩
end
end
section
theorem kw_B19_1 : True := by
  k_with_none
  k_with "execs cons" => ((with_reducible refine seq_cons fun zQ1 ztk zhQ1 => ?_); try dsimp only)
  trivial
theorem Ln.values {lines : Array Value} {ls : List PySem.Str} (R : Ln lines ls) : ∃ l : List (PySem.Str × Tok), lines = (strValues l).toArray ∧ l.map (·.1) = ls := by
  have z : ∀ k, ∃ t : Tok, k < ls.length → lines[k]? = some (.str (ls.getD k "") t) := fun k => by
    by_cases hk : k < ls.length
    · obtain ⟨t, e⟩ := R.at_ k _ (List.getElem?_eq_getElem hk)
      exact ⟨t, fun _ => by rw [e, List.getD_eq_getElem?_getD, List.getElem?_eq_getElem hk]; rfl⟩
    · exact ⟨0, fun h => absurd h hk⟩
  refine ⟨(List.range ls.length).map fun k => (ls.getD k "", (z k).choose), ?_, ?_⟩
  · apply Array.ext_getElem?
    intro k
    by_cases hk : k < ls.length
    · rw [(z k).choose_spec hk]; simp [strValues, hk]
    · rw [Array.getElem?_eq_none (by rw [R.size]; omega)]; simp [strValues, Nat.le_of_not_lt hk]
  · apply List.ext_getElem?
    intro k
    by_cases hk : k < ls.length
    · simp [hk]
    · simp [Nat.le_of_not_lt hk]
theorem news_of {g h h' : Heap} {L : Addr} {news news' : List (Addr × Obj)} (N : News g L h news) (hs : ∀ q ∈ news', h'.get? q.1 = some q.2 ∧ ∃ o, (q.1, o) ∈ news) : News g L h' news' := fun q hq =>
  let ⟨a, o, b⟩ := hs q hq
  ⟨a, (N _ b).2⟩
theorem fr_butS {g h h' : Heap} {L : Addr} {m : PySem.Str → Option Value} {news : List (Addr × Obj)} {S : List Addr} (F : Fr g L h m) (N : News g L h news) (hs : ∀ a ∈ S, ∃ o, (a, o) ∈ news) (k : KeepsBut S h h') : Fr g L h' m := by
  refine ⟨?_, fun b' o' e => k _ _ (fun q => ?_) (F.keep b' o' e), F.above⟩
  · obtain ⟨oL, es, ep, hL, r⟩ := F.ns
    refine ⟨oL, es, ep, k _ _ (fun q => ?_) hL, r⟩
    obtain ⟨o, ho⟩ := hs _ q
    exact (N _ ho).2.1 rfl
  · obtain ⟨o, ho⟩ := hs _ q
    rw [(N _ ho).2.2] at e; cases e
theorem fillB19 (w : World) (h : Heap) (X : (Mine.hd.heap_39 w.params).In h) (e : PySem.Challenge.rw_wu0089_01.foot = PySem.Challenge.rw_wu0089_01.foot) : True := by
  revert X e; k_fill; intro _ _; trivial

theorem kw_B19_2 : True := by
  k_with "k_inst" => (refine' acc_inst ?q2a ?q2b ?q2c; (case q2a => k_asm); (case q2b => k_mem); (case q2c => k_mem))
  k_with "getMethod ref" => (k_here; (with_reducible show wpAny _ _ (getMethod (Value.ref _) (PySem.Str.ofString "append") _) _ _ _); k_dflt (refine' method_bi ?q6a ?q6b ?q6c ?q6d ?q6h ?q6i ?q6e ?q6f ?q6g ?_; (case q6a => k_asm); (case q6b => k_asm); (case q6c => k_inst); (case q6d => k_is); (case q6h => kernel_rfl); (case q6i => k_is); (case q6e => k_is); (case q6f => kernel_rfl); (case q6g => first | assumption | k_get); k_whole))
  k_with "call builtin:list.append" => (k_here; (with_reducible show wpAny _ _ (call (Value.builtin _) [Value.ref _, _]) _ _ _); k_dflt (refine' append_acc ?q4a ?q4b ?q4c ?q4d ?q4e ?q4f ?_ ?q4g; (case q4a => k_asm); (case q4b => k_asm); (case q4c => k_asm); (case q4e => k_is); (case q4f => k_upd); (case q4d => k_mem); (case q4g => assumption); k_whole); intro zh' zF' zN'; (try k_sweep))
  k_with "ktr_enter" => (refine' enter_fn ?q7a ?q7d ?q7e ?q7f ?q7g ?q7h ?q7i ?_ ?q7j ?q7k ?q7b ?q7c; (case q7g => assumption); (case q7a => assumption); (case q7e => k_is); (case q7f => k_is); (case q7d => decide); (case q7h => first | exact BindsTo.of_eq rfl | exact binds_K (Gd.here (by assumption)).X rfl (by k_is) rfl rfl rfl); (case q7j => decide); (case q7i => exact locs rfl); (case q7k => exact rfl); (case q7b => exact rfl); (case q7c => exact rfl); k_whole; rintro zg' zL' zh' zp' zl' zmean' zmg' zmb' zT' zX' zGN zF' zN' zl1 zK1 zhL'; (try dsimp only); (try k_fold))
  k_with "ks_enter" => (refine' enter_at ?q8a ?q8d ?q8e ?q8f ?q8g ?q8h ?q8i ?_ ?q8j ?q8k ?q8b ?q8c; (case q8g => assumption); (case q8a => assumption); (case q8e => k_is); (case q8f => k_is); (case q8d => decide); (case q8h => first | exact BindsTo.of_eq rfl | exact binds_K (Gd.here (by assumption)).X rfl (by k_is) rfl rfl rfl); (case q8j => decide); (case q8i => exact locs rfl); (case q8k => exact rfl); (case q8b => exact rfl); (case q8c => exact rfl); k_whole; rintro zg' zL' zh' zp' zl' zmean' zmg' zmb' zT' zX' zGN zF' zN' zl1 zK1 zhL'; (try dsimp only))
  k_with "callWith ref" => (k_here; (with_reducible show wpAny _ _ (callWith _ (Value.ref _) [] (backTo _ (starEach [] _)) []) _ _ _); k_dflt (refine' callWith_B0 ?q9a ?q9b ?q9c ?_; (case q9a => k_asm); (case q9b => k_mem); (case q9c => first | exact .inl rfl | exact .inr rfl)))
  k_with "getAttr ref" => (k_here; (with_reducible show wpAny _ _ (getAttr (Value.ref _) _ _) _ _ _); k_dflt (refine' get_ownA ?q10d ?q10e ?q10f ?q10l ?q10m ?q10n ?q10g ?q10h ?q10i ?q10j ?q10k ?_; (case q10d => k_asm); (case q10e => k_asm); (case q10f => (refine' acc_inst ?q10a ?q10b ?q10c; (case q10a => k_asm); (case q10b => k_mem); (case q10c => k_mem))); (case q10l => k_is); (case q10m => k_is); (case q10n => k_is); (case q10g => k_is); (case q10h => k_is); (case q10i => k_is); (case q10j => first | assumption | k_get); (case q10k => k_handed); k_whole))
  k_with "getMethod ref" => (k_here; (with_reducible show wpAny _ _ (getMethod (Value.ref _) _ _) _ _ _); k_dflt (refine' method_fnA ?q13a ?q13b ?q13c ?q13d ?q13h ?q13i ?q13e ?q13f ?q13g ?_; (case q13a => k_asm); (case q13b => k_asm); (case q13c => k_inst); (case q13d => k_is); (case q13h => kernel_rfl); (case q13i => k_is); (case q13e => k_is); (case q13f => k_is); (case q13g => first | assumption | k_get); k_whole))
  k_with "getAttr ref" => (k_here; (with_reducible show wpAny _ _ (getAttr (Value.ref _) _ _) _ _ _); k_dflt (refine' get_own ?q24a ?q24b ?q24c ?q24d ?q24e ?q24f ?q24g ?q24h ?q24i ?_; (case q24c => k_inst); (case q24a => k_asm); (case q24b => k_asm); (case q24d => k_is); (case q24e => k_is); (case q24f => k_is); (case q24g => k_is); (case q24h => with_reducible assumption); (case q24i => k_handed); k_whole))
  trivial
section
variable {w : World} {s : Shared} {p dp l x dx : Addr} {eF : List DictEntry} {nF : Nat} {wd : Int} {n de : Nat} {hs : Int} {tk0 tn : Tok} {Q E : Value → Shared → Prop} {ws0 : List (PySem.Str × PySem.Str)} {f v : PySem.Str}
theorem kw_B19_3 : True := by
  k_with "call ref" => (k_here; (with_reducible show wpAny _ _ (call (Value.ref _) _) _ _ _); refine stop ?_)
  k_with "getMethod ref" => (k_here; (with_reducible show wpAny _ _ (getMethod (Value.ref _) _ _) _ _ _); k_dflt (refine' method_inst ?q26a ?q26b ?q26c ?q26d ?q26e ?q26f ?q26g ?_; (case q26a => k_asm); (case q26b => k_asm); (case q26c => k_inst); (case q26d => k_is); (case q26e => k_is); (case q26f => k_is); (case q26g => with_reducible assumption); k_whole))
  trivial
theorem str_fm_spec (C : FmC) (hC : C = ⟨p, dp, l, x, dx, eF, nF, hs, tk0, de⟩) (FE : FmE eF wd l x) (o1 : @LT.lt Nat _ dp p) (o2 : @LT.lt Nat _ p l) (o3 : @LT.lt Nat _ l dx) (o4 : @LT.lt Nat _ dx x) (o0 : @LE.le Nat _ 343 dp) {ls : List PySem.Str} (hsm : Small (ws0 ++ [(f, v)])) (hlz : ls.length < 1000000)
    (hv : v ≠ "") (of : PyData.strOk f = true) (ov : PyData.strOk v = true) (hpos : 0 < ((ws0 ++ [(f, v)]).map wlen).sum) (hns : Txt.isspace (catAll (ws0 ++ [(f, v)])) = false)
    {g0 : Heap} (B0 : Bs w g0) (k0 : Keeps g0 s.heap) (n0 : ∀ a ∈ C.own, g0.get? a = none) (M : Fm g0 s.heap C (ws0 ++ [(f, v)], ls)) (hok : JoinOk "\n" (ls ++ [catAll (ws0 ++ [(f, v)])]) = true)
    (hQ : ∀ h' gs' tk t, KeepsBut C.own s.heap h' → Tb h' 162 → Tb h' 169 → (AllBare s.gens → AllBare gs') → Q (.str (Txt.join "\n" (ls ++ [catAll (ws0 ++ [(f, v)])])) t) { s with heap := h', gens := gs', toks := tk }) :
    wpAny (model P0 w) (At 460 2600) (call (.ref 64) [.ref p, .str "\n" tn]) Q E s := by
  obtain ⟨hp, hdp, ⟨lines, nl, hl, HL⟩, ⟨items, n, hx, R, hT⟩, ⟨t0', hd⟩, ⟨oP, hP, hTP⟩, ⟨oS, hS, hTS⟩⟩ := id M
  subst hC
  dsimp only [FmC.own] at hQ hp hdp hl hx R hT hd HL
  have G : Gd w s.heap [p, dp, l, x, dx, 162, 169] := Gd.of B0 k0 n0
  have hn : ∀ q ∈ [(p, instObj 116 dp), (dp, dictOf eF nF), (l, listO lines nl), (x, accO dx items n), (dx, dictOf (es1 hs tk0 t0') de), ((162 : Addr), oP), ((169 : Addr), oS)], s.heap.get? q.1 = some q.2 := by
    refine mem_all7 ?_ ?_ ?_ ?_ ?_ ?_ ?_ <;> assumption
  have FE' := FE
  obtain ⟨⟨tm, fe1⟩, ⟨tsp, fe2⟩, fe3, fe4, fe5, fe6, fe7⟩ := FE
  refine wpAny_call ?_
  k_dflt ktr_enter
  k_steps
  unfold Stop
  rename Gnd w s.heap _ _ => GN
  rename Fr _ _ _ _ => F
  rename News _ _ _ _ => N
  have kg := fun b o (e : g0.get? b = some o) => GN.kb _ (Keeps.refl _) b o (fun q => by rw [n0 b q] at e; cases e) (k0 b o e)
  refine at_le (le_at rfl rfl rfl) (newline_spec (p := p) (dp := dp) (l := l) (x := x) (dx := dx) (eF := eF) (nF := nF) (hs := hs) (tk0 := tk0) (de := de) (wd := wd) _ rfl FE' o1 o2 o3 o4 o0 hsm hlz hv of ov hpos hns B0 (fun b o e => F.keep _ _ (kg b o e)) n0
    ⟨(N (p, _) (by k_mem)).1, (N (dp, _) (by k_mem)).1, ⟨lines, nl, (N (l, _) (by k_mem)).1, HL⟩, ⟨items, n, (N (x, _) (by k_mem)).1, (R.but (GN.kb _ (Keeps.refl _)) (fun T h => (hT T h).1)).keeps F.keep, hT⟩, ⟨t0', (N (dx, _) (by k_mem)).1⟩, ⟨oP, (N ((162 : Addr), oP) (by k_mem)).1, hTP⟩, ⟨oS, (N ((169 : Addr), oS) (by k_mem)).1, hTS⟩⟩ (fun h2 gs2 tk2 k2 M2 b2 => ?_))
  obtain ⟨hp2, hdp2, ⟨lines2, nl2, hl2, HL2⟩, ⟨items2, n2, hx2, R2, hT2⟩, ⟨t02, hd2⟩, ⟨oP2, hP2, hTP2⟩, ⟨oS2, hS2, hTS2⟩⟩ := M2
  dsimp only at hp2 hdp2 hl2 hx2 hd2 HL2
  have F2 := fr_butS F N (S := [p, dp, l, x, dx, 162, 169]) (by
    refine mem_all7 ?_ ?_ ?_ ?_ ?_ ?_ ?_ <;> exact ⟨_, by k_mem⟩) k2
  have N2 := news_of (h' := h2) (news' := [(p, instObj 116 dp), (dp, dictOf eF nF), (l, listO lines2 nl2), (x, accO dx items2 n2), (dx, dictOf (es1 hs tk0 t02) de), ((162 : Addr), oP2), ((169 : Addr), oS2)]) N (by
    refine mem_all7 ?_ ?_ ?_ ?_ ?_ ?_ ?_
    · exact ⟨hp2, _, by k_mem⟩
    · exact ⟨hdp2, _, by k_mem⟩
    · exact ⟨hl2, _, by k_mem⟩
    · exact ⟨hx2, _, by k_mem⟩
    · exact ⟨hd2, _, by k_mem⟩
    · exact ⟨hP2, _, by k_mem⟩
    · exact ⟨hS2, _, by k_mem⟩)
  clear F N
  k_steps
  rename Fr _ _ _ _ => F
  rename News _ _ _ _ => N
  obtain ⟨lv, e1, e2⟩ := HL2.values
  refine SC.join (l := lv) (texts := ls ++ [catAll (ws0 ++ [(f, v)])]) ⟨_, (N (l, _) (by k_mem)).1, rfl, nl2, by rw [e1]⟩ e2 hok (fun t' k' => ?_)
  k_steps
  refine hQ _ _ _ _ (gnd_but GN F.keep ?_) ⟨oP2, (N ((162 : Addr), oP2) (by k_mem)).1, hTP2⟩ ⟨oS2, (N ((169 : Addr), oS2) (by k_mem)).1, hTS2⟩ b2
  exact fun q hq => .inl (List.mem_map_of_mem (f := Prod.fst) hq)
end
end
section
section
variable {w : World} {s : Shared} {A : Around} {R : Result → Shared → Prop} {news : List (Addr × Obj)} {name qual : Str} {params : Arguments} {scope : Scope} {dV kV doc pm cdv ct oc : Value} {an od : Option Addr} {osl : Array (Option Value)} {cl : List (Str × Addr)} {f : Addr} {args : Args} {binds : List (Str × Value)}
theorem nolimit_here {h : Heap} {S : List Addr} (G : Gd w h S) : h.NoLimit := by
  refine topE G.T fun {p loose mean mg mb} T => ?_
  exact T.nolimit.keeps hide_keeps
theorem none_size (h : Heap) : h.get? h.objs.size = none := by
  cases q : h.get? h.objs.size with
  | none => rfl
  | some o => exact absurd (Heap.lt_size q) (Nat.lt_irrefl _)
/-- a call of a lambda that the run made -/
theorem enter_lam {body : Expr} {c' : Addr} {ctv : Value} {oC : Obj} {vs : Array Value} {tq : Tok} (G : Gd w s.heap (news.map Prod.fst)) (hroom : A.depth < recursionLimit)
    (ho : s.heap.get? f = some (kla_obj name qual params body scope cl pm c' ctv)) (hc1 : s.heap.get? c' = some oC) (hc2 : oC.data = .fields vs) (hc3 : vs[1]? = some (.str qual tq))
    (hn : ∀ p ∈ news, s.heap.get? p.1 = some p.2)
    (hbind : bindArgs (kla_fn name qual params body scope cl pm (.ref c') ctv) args = pure binds) (hloc : ∀ y ∈ binds, scope.names.lookup y.1 = some .local)
    (h : ∀ g L h₁, ∀ p loose mean mg mb, Top p loose mean mg mb g → (Mine.hd.heap_39 w.params).In g → Gnd w s.heap news g → Fr g L h₁ (fun y => binds.reverse.lookup y) → News g L h₁ news → (∀ p ∈ news, p.1 < L) → Keeps s.heap h₁ → s.heap.get? L = none →
      wpAny (model P0 w) (A.deeper (envX qual scope L f (.ref c') cl)) (eval body (envX qual scope L f (.ref c') cl)) (fun v s' => R (.ok (.ret v)) s') (fun _ _ => False)
        { s with heap := h₁, toks := s.toks + binds.length })
    (hcell : ∀ x ∈ scope.names, x.2 ≠ .cell) (hco : scope.isCoroutine = false) (hgen : scope.isGenerator = false) (hk : scope.kind = .function) : codeAny (model P0 w) A (.call (.ref f) args) R s := by
  have nl := nolimit_here G
  refine topE G.T fun {p loose mean mg mb} T => ?_
  refine kla_callFunE hroom ho rfl hco hgen rfl ⟨c', oC, vs, tq, rfl, hc1, hc2, hc3⟩ ?_
  rw [hbind]
  refine wpAny_pure (wpAny_newFunctionEnv hcell hloc (fun h₁ hns hsb => ⟨nl.fresh _ hsb, ?_⟩) hk)
  show codeAny _ _ (.expr body (envX qual scope s.heap.objs.size f (.ref c') cl)) _ _
  have hk₁ : ∀ b o, s.heap.get? b = some o → h₁.get? b = some o := fun b o e => hsb.extBut b o (Nat.ne_of_lt (Heap.lt_size e)) (Heap.get?_push_of_some _ e)
  exact kla_codeExpr (wpAny_mono (h (hideAll s.heap (news.map Prod.fst)) s.heap.objs.size h₁ p loose mean mg mb T G.X (gnd_hide G) ⟨hns, fun b o e => hk₁ b o (of_hideAll _ e), Nat.le_of_eq (hideAll_size _ _)⟩
    (fun p hp => ⟨hk₁ _ _ (hn p hp), Nat.ne_of_lt (Heap.lt_size (hn p hp)), hideAll_none _ (List.mem_map_of_mem hp)⟩) (fun p hp => Heap.lt_size (hn p hp)) hk₁ (none_size _)) (fun v s' hl => hl) fun _ _ y => y.elim)
/-- a call of one of the text's defs that has cells -/
theorem enter_cells {body : List Stmt} {cs : Addr → List (Str × Addr)} (hcs : ∀ L, cellsFrom (L + 1) scope.names [] = cs L) (G : Gd w s.heap (news.map Prod.fst)) (hroom : A.depth < recursionLimit)
    (ho : (Mine.hd.heap_39 w.params).lookup f = some ⟨oc, od, .func (fnX name qual params body scope [] dV kV doc pm an cdv ct), osl⟩) (hcd : codeIn (Mine.hd.heap_39 w.params) cdv qual = true)
    (hn : ∀ p ∈ news, s.heap.get? p.1 = some p.2)
    (hbind : BindsTo s (fnX name qual params body scope [] dV kV doc pm an cdv ct) args binds)
    (hkind : (binds.all fun y => scope.names.lookup y.1 == some .local || scope.names.lookup y.1 == some .cell) = true)
    (hnd : ((cellsFrom 0 scope.names []).map (·.1)).Nodup)
    (h : ∀ g L h₁ tk cells, ∀ p loose mean mg mb, Top p loose mean mg mb g → (Mine.hd.heap_39 w.params).In g → Gnd w s.heap news g → Fr g L h₁ (bindL (envX qual scope L f cdv (cs L)).kindOf binds fun _ => none) → News g L h₁ (cells ++ news) →
      CellsAre (bindC (envX qual scope L f cdv (cs L)).kindOf binds fun _ => none) (cs L) cells → (∀ p ∈ news, p.1 < L) → (∀ p ∈ cells, s.heap.get? p.1 = none) → Keeps s.heap h₁ → s.heap.get? L = none →
      wpAny (model P0 w) (A.deeper (envX qual scope L f cdv (cs L))) (execs body (envX qual scope L f cdv (cs L))) (fun fl s' => R (.ok (.ret (match fl with | .ret v => v | _ => .none))) s') (fun _ _ => False)
        { s with heap := h₁, toks := tk })
    (hco : scope.isCoroutine = false) (hgen : scope.isGenerator = false) (hk : scope.kind = .function) : codeAny (model P0 w) A (.call (.ref f) args) R s := by
  have nl := nolimit_here G
  have hcs' : ∀ L, envX qual scope L f cdv (cs L) = envOfC qual scope L f cdv := fun L => by rw [← hcs L]; rfl
  simp only [hcs', ← hcs] at h
  refine topE G.T fun {p loose mean mg mb} T => ?_
  refine codeAny_call_function hroom ((G.here).X _ _ ho) rfl hco hgen rfl (codeRec_of G.here.X hcd) (hbind _ _ _ _ ?_)
  refine wpAny_newFunctionEnv_cells hk (kindsX hkind _) fun env' he s' x => ?_
  subst he
  refine ⟨nl.keeps x.toInCall.keep, codeAny_func ?_⟩
  obtain ⟨h₁, tk, rfl, _⟩ := x.done
  have hk₁ := x.toInCall.keep
  obtain ⟨cells, NC, Y⟩ := Cl.news (h₀ := s.heap) (Nat.le_refl _) fun n c hm => ⟨x.cell n c (lookup_of_mem_nodup (cellsFrom_names scope.names 0 (s.heap.objs.size + 1) [] [] rfl ▸ hnd) hm), x.above n c hm⟩
  refine wpAny_mono (h (hideAll s.heap (news.map Prod.fst)) s.heap.objs.size h₁ tk cells p loose mean mg mb T G.X (gnd_hide G) ⟨x.toInCall.ns, fun b o e => hk₁ b o (of_hideAll _ e), Nat.le_of_eq (hideAll_size _ _)⟩ (fun p hp => ?_) Y (fun p hp => Heap.lt_size (hn p hp)) (fun p hp => (NC p hp).2.2) hk₁ (none_size _)) (fun fl s' hl => hl) fun _ _ y => y.elim
  rcases List.mem_append.mp hp with hp | hp
  · refine ⟨(NC p hp).1, (NC p hp).2.1, ?_⟩
    cases q : (hideAll s.heap (news.map Prod.fst)).get? p.1 with
    | none => rfl
    | some o => have := of_hideAll _ q; rw [(NC p hp).2.2] at this; cases this
  · exact ⟨hk₁ _ _ (hn p hp), Nat.ne_of_lt (Heap.lt_size (hn p hp)), hideAll_none _ (List.mem_map_of_mem hp)⟩
end
/-- a list of the signs of a text -/
structure Sg (items : Array Value) (cs : List Nat) : Prop where
  size : items.size = cs.length
  at_ : ∀ (k : Nat) (c : Nat), cs[k]? = some c → ∃ t : Tok, items[k]? = some (.str ⟨#[c]⟩ t)
section
variable {w : World} {s : Shared} {A : Around} {E : Value → Shared → Prop} {g : Heap} {L : Addr} {m : PySem.Str → Option Value} {news : List (Addr × Obj)}
theorem listStr_N {x : PySem.Str} {t : Tok} {Q : Value → Shared → Prop} (hh : A.handled = none) (F : Fr g L s.heap m) (N : News g L s.heap news) (hz : x.cps.size ≤ sizeLine)
    (h : ∀ l h' tk items n, Fr g L h' m → News g L h' ((l, listO items n) :: news) → (∀ p ∈ news, p.1 < l) → @LT.lt Nat _ L l → Sg items x.cps.toList → Q (.ref l) { s with heap := h', toks := tk }) :
    wpAny (model P0 w) A (call (.type "list") [.str x t]) Q E s := by
  refine call_list_str hh x t (hn := hz) fun h' tk acc' c' hk hS' hacc => ?_
  have hL := F.ns.lt
  refine h s.heap.objs.size h' tk acc' c' (fr_keeps F hk) (fun p hp => ?_) (fun p hp => Heap.lt_size (N p hp).1) hL ⟨by simpa using hacc.1, fun k c hc => ?_⟩
  · rcases List.mem_cons.mp hp with rfl | hp
    · exact ⟨hS', Nat.ne_of_gt hL, by
        cases e : g.get? s.heap.objs.size with
        | none => rfl
        | some o => exact absurd (Heap.lt_size (F.keep _ _ e)) (Nat.lt_irrefl _)⟩
    · exact ⟨hk _ _ (N p hp).1, (N p hp).2⟩
  · have hk2 : k < acc'.size := by
      have := (List.getElem?_eq_some_iff.mp hc).1
      rw [hacc.1]; simpa using this
    obtain ⟨c2, u, e1, e2⟩ := hacc.2 k acc'[k] (Array.getElem?_eq_getElem hk2)
    have e3 : c2 = c := by
      have : x.cps.toList[k]? = some c2 := by simpa using e1
      rw [hc] at this; cases this; rfl
    subst e3
    exact ⟨u, by rw [Array.getElem?_eq_getElem hk2, e2]⟩
end
end
section
theorem kw_C2_1 : True := by
  k_with_none
  k_with "execs cons" => ((with_reducible refine seq_cons fun zQ1 ztk zhQ1 => ?_); try dsimp only)
  trivial
theorem lookup_hd {x : PySem.Str} {c : Addr} {r : List (PySem.Str × Addr)} : List.lookup x ((x, c) :: r) = some c := by simp
noncomputable def lamOf : Option Obj → Option (Arguments × Expr × Scope)
  | some ⟨_, _, .func fd, _⟩ => match fd.body with
    | .stmts [_, _, .Assign [_] (.Lambda a b s _) _, _] => some (a, b, s)
    | _ => none
  | _ => none
/-- the lambda in _law_lexer -/
noncomputable def lamIs (P : Params) (pa : Arguments) (lb : Expr) (ls : Scope) : Prop := lamOf ((Mine.hd.heap_39 P).lookup 311) = some (pa, lb, ls)
theorem fillC2 (w : World) (h : Heap) (X : (Mine.hd.heap_39 w.params).In h) (e : PySem.Challenge.rw_wu0089_01.foot = PySem.Challenge.rw_wu0089_01.foot) : True := by
  revert X e; k_fill; intro _ _; trivial

theorem kw_C2_2 : True := by
  k_with "k_inst" => (refine' acc_inst ?q2a ?q2b ?q2c; (case q2a => k_asm); (case q2b => k_mem); (case q2c => k_mem))
  k_with "getMethod ref" => (k_here; (with_reducible show wpAny _ _ (getMethod (Value.ref _) (PySem.Str.ofString "append") _) _ _ _); k_dflt (refine' method_bi ?q6a ?q6b ?q6c ?q6d ?q6h ?q6i ?q6e ?q6f ?q6g ?_; (case q6a => k_asm); (case q6b => k_asm); (case q6c => k_inst); (case q6d => k_is); (case q6h => kernel_rfl); (case q6i => k_is); (case q6e => k_is); (case q6f => kernel_rfl); (case q6g => first | assumption | k_get); k_whole))
  k_with "call builtin:list.append" => (k_here; (with_reducible show wpAny _ _ (call (Value.builtin _) [Value.ref _, _]) _ _ _); k_dflt (refine' append_acc ?q4a ?q4b ?q4c ?q4d ?q4e ?q4f ?_ ?q4g; (case q4a => k_asm); (case q4b => k_asm); (case q4c => k_asm); (case q4e => k_is); (case q4f => k_upd); (case q4d => k_mem); (case q4g => assumption); k_whole); intro zh' zF' zN'; (try k_sweep))
  k_with "ktr_enter" => (refine' enter_fn ?q7a ?q7d ?q7e ?q7f ?q7g ?q7h ?q7i ?_ ?q7j ?q7k ?q7b ?q7c; (case q7g => assumption); (case q7a => assumption); (case q7e => k_is); (case q7f => k_is); (case q7d => decide); (case q7h => first | exact BindsTo.of_eq rfl | exact binds_K (Gd.here (by assumption)).X rfl (by k_is) rfl rfl rfl); (case q7j => decide); (case q7i => exact locs rfl); (case q7k => exact rfl); (case q7b => exact rfl); (case q7c => exact rfl); k_whole; rintro zg' zL' zh' zp' zl' zmean' zmg' zmb' zT' zX' zGN zF' zN' zl1 zK1 zhL'; (try dsimp only); (try k_fold))
  k_with "ks_enter" => (refine' enter_at ?q8a ?q8d ?q8e ?q8f ?q8g ?q8h ?q8i ?_ ?q8j ?q8k ?q8b ?q8c; (case q8g => assumption); (case q8a => assumption); (case q8e => k_is); (case q8f => k_is); (case q8d => decide); (case q8h => first | exact BindsTo.of_eq rfl | exact binds_K (Gd.here (by assumption)).X rfl (by k_is) rfl rfl rfl); (case q8j => decide); (case q8i => exact locs rfl); (case q8k => exact rfl); (case q8b => exact rfl); (case q8c => exact rfl); k_whole; rintro zg' zL' zh' zp' zl' zmean' zmg' zmb' zT' zX' zGN zF' zN' zl1 zK1 zhL'; (try dsimp only))
  k_with "callWith ref" => (k_here; (with_reducible show wpAny _ _ (callWith _ (Value.ref _) [] (backTo _ (starEach [] _)) []) _ _ _); k_dflt (refine' callWith_B0 ?q9a ?q9b ?q9c ?_; (case q9a => k_asm); (case q9b => k_mem); (case q9c => first | exact .inl rfl | exact .inr rfl)))
  k_with "getAttr ref" => (k_here; (with_reducible show wpAny _ _ (getAttr (Value.ref _) _ _) _ _ _); k_dflt (refine' get_ownA ?q10d ?q10e ?q10f ?q10l ?q10m ?q10n ?q10g ?q10h ?q10i ?q10j ?q10k ?_; (case q10d => k_asm); (case q10e => k_asm); (case q10f => (refine' acc_inst ?q10a ?q10b ?q10c; (case q10a => k_asm); (case q10b => k_mem); (case q10c => k_mem))); (case q10l => k_is); (case q10m => k_is); (case q10n => k_is); (case q10g => k_is); (case q10h => k_is); (case q10i => k_is); (case q10j => first | assumption | k_get); (case q10k => k_handed); k_whole))
  k_with "eval Name" => ((with_reducible show wpAny _ _ (eval (Expr.Name _ _) (envX _ _ _ _ _ (_ :: _))) _ _ _); k_dflt (refine' nameX_F ?q27a ?q27d ?q27f ?q27e ?_ ?q27b ?q27c; (case q27b => rfl); (case q27c => rfl); (case q27a => k_asm); (case q27d => exact lookup_hd); (case q27f => k_mem); (case q27e => k_asm); k_whole))
  trivial
section
variable {w : World} {s : Shared} {lam c' c sg : Addr} {pa : Arguments} {lb : Expr} {ls : Scope} {qn : PySem.Str} {pm ctv : Value} {oC oc : Obj} {vs : Array Value} {tq t1 : Tok} {items : Array Value} {n : Nat} {Q E : Value → Shared → Prop}
theorem lam_nil (hl : lamIs w.params pa lb ls) (G : Gd w s.heap [lam, c', c, sg]) (h1 : s.heap.get? lam = some (kla_obj "<lambda>" qn pa lb ls [("signs", c)] pm c' ctv)) (h2 : s.heap.get? c' = some oC) (h2a : oC.data = .fields vs) (h2b : vs[1]? = some (.str qn tq))
    (h3 : s.heap.get? c = some oc) (h3a : oc.data = .cell (some (.ref sg))) (h4 : s.heap.get? sg = some (listO #[] n))
    (hQ : ∀ h' tk t, Keeps s.heap h' → Q (.str "" t) { s with heap := h', toks := tk }) :
    codeAny (model P0 w) (At 550 3500) (.call (.ref lam) ⟨[.int 1 t1], []⟩) (fun r s' => match r with | .ok (.ret v) => Q v s' | .ok _ => False | .error e => E e s') s := by
  have hn : ∀ q ∈ [(lam, kla_obj "<lambda>" qn pa lb ls [("signs", c)] pm c' ctv), (c', oC), (c, oc), (sg, listO #[] n)], s.heap.get? q.1 = some q.2 := by
    refine mem_all4 ?_ ?_ ?_ ?_ <;> assumption
  unfold lamIs at hl
  conv at hl => lhs; whnf
  cases hl
  refine enter_lam (news := [(lam, _), (c', oC), (c, oc), (sg, listO #[] n)]) G (by decide) h1 h2 h2a h2b hn (binds := [("size", .int 1 t1)]) rfl (locs rfl) ?_ (by decide) rfl rfl rfl
  rintro g' L' h' p' l' mean' mg' mb' T' X' GN F' N' l1 K1 hL'; k_lt l1; (try dsimp only); (try k_fold)
  trace_state
  k_steps
  exact hQ _ _ _ K1
theorem seqIndex0 (v : Value) (r : List Value) : seqIndex? 0 (v :: r).toArray.size = some 0 := by
  unfold seqIndex?
  simp
theorem popAt0 {g : Heap} {L D : Addr} {m : PySem.Str → Option Value} {news news' : List (Addr × Obj)} {A : Around} {v : Value} {r : List Value} {u : Tok} (F : Fr g L s.heap m) (N : News g L s.heap news) (U : Upd D (listO (v :: r).toArray n) (listO r.toArray (n + 1)) news news') (hz : (v :: r).length ≤ sizeLine)
    (h : ∀ h', Fr g L h' m → News g L h' news' → Q v { s with heap := h' }) : wpAny (model P0 w) A (call (.builtin "list.pop") [.ref D, .int 0 u]) Q E s :=
  kl_popAt (p := []) (q := r) (its := (v :: r).toArray) F N rfl (seqIndex0 v r) rfl U hz h
theorem truthy_cons {v : Value} {r : List Value} {D : Addr} {A : Around} {Q : Bool → Shared → Prop} (hD : s.heap.get? D = some (listO (v :: r).toArray n)) (hz : (v :: r).length ≤ sizeLine) (h : Q true { s with toks := s.toks + 1 + 1 }) : wpAny (model P0 w) A (truthy (.ref D)) Q E s := by
  have z : (!(v :: r).toArray.isEmpty) = true := by simp [Array.isEmpty]
  refine wpAny_truthy_list (items := (v :: r).toArray) ⟨_, hD, rfl, _, rfl⟩ ?_ (z ▸ h)
  simp only [List.size_toArray]
  have : (sizeLine : Int) < 2 ^ 63 := by decide
  omega
theorem kw_C2_3 : True := by
  k_with "truthy ref" => k_dflt (refine' truthy_cons ?q28a ?q28b ?_; (case q28a => exact (News.get (by k_asm) (by k_mem))); (case q28b => assumption); k_whole)
  k_with "call builtin:list.pop" => (k_dflt (refine' popAt0 ?q29a ?q29b ?q29c ?q29d ?_; (case q29a => k_asm); (case q29b => k_asm); (case q29c => k_upd); (case q29d => assumption); k_whole); intro zh' zF' zN'; (try k_sweep))
  trivial
theorem lam_cons {v : Value} {r : List Value} (hl : lamIs w.params pa lb ls) (G : Gd w s.heap [lam, c', c, sg]) (h1 : s.heap.get? lam = some (kla_obj "<lambda>" qn pa lb ls [("signs", c)] pm c' ctv)) (h2 : s.heap.get? c' = some oC) (h2a : oC.data = .fields vs) (h2b : vs[1]? = some (.str qn tq))
    (h3 : s.heap.get? c = some oc) (h3a : oc.data = .cell (some (.ref sg))) (h4 : s.heap.get? sg = some (listO (v :: r).toArray n)) (h5 : (v :: r).length ≤ sizeLine) (hne : @Ne Nat lam sg ∧ @Ne Nat c' sg ∧ @Ne Nat c sg)
    (hQ : ∀ h' tk, KeepsBut [sg] s.heap h' → h'.get? sg = some (listO r.toArray (n + 1)) → Q v { s with heap := h', toks := tk }) :
    codeAny (model P0 w) (At 550 3500) (.call (.ref lam) ⟨[.int 1 t1], []⟩) (fun r s' => match r with | .ok (.ret v) => Q v s' | .ok _ => False | .error e => E e s') s := by
  have hn : ∀ q ∈ [(lam, kla_obj "<lambda>" qn pa lb ls [("signs", c)] pm c' ctv), (c', oC), (c, oc), (sg, listO (v :: r).toArray n)], s.heap.get? q.1 = some q.2 := by
    refine mem_all4 ?_ ?_ ?_ ?_ <;> assumption
  unfold lamIs at hl
  conv at hl => lhs; whnf
  cases hl
  obtain ⟨ne1, ne2, ne3⟩ := hne
  refine enter_lam (news := [(lam, _), (c', oC), (c, oc), (sg, listO (v :: r).toArray n)]) G (by decide) h1 h2 h2a h2b hn (binds := [("size", .int 1 t1)]) rfl (locs rfl) ?_ (by decide) rfl rfl rfl
  rintro g' L' h' p' l' mean' mg' mb' T' X' GN F' N' l1 K1 hL'; k_lt l1; (try dsimp only); (try k_fold)
  k_steps
  rename Gnd w s.heap _ _ => GN
  rename Fr _ _ _ _ => F
  rename News _ _ _ _ => N
  refine hQ _ _ (gnd_but GN F.keep ?_) (N (sg, _) (by k_mem)).1
  refine mem_all4 ?_ ?_ ?_ ?_
  · exact .inr ⟨h1, (N (lam, _) (by k_mem)).1⟩
  · exact .inr ⟨h2, (N (c', _) (by k_mem)).1⟩
  · exact .inr ⟨h3, (N (c, _) (by k_mem)).1⟩
  · exact .inl (.head _)
end
end
section
theorem kw_C3_1 : True := by
  k_with_none
  k_with "execs cons" => ((with_reducible refine seq_cons fun zQ1 ztk zhQ1 => ?_); try dsimp only)
  trivial
/-- what stays the same in a lexer -/
structure LxC where
  (l dl f df lam c' c sg pb : Addr)
  (h1 h2 h3 h4 : Int)
  (k1 k2 k3 k4 t3 : Tok)
  (eF : List DictEntry) (nF : Nat)
  (pa : Arguments) (lb : Expr) (ls : Scope) (qn : PySem.Str) (pm ctv : Value) (oC oc : Obj)
noncomputable abbrev lxEs (C : LxC) (n : Int) (t : Tok) : List DictEntry := [⟨C.h1, .str "lineno" C.k1, .int n t⟩, ⟨C.h2, .str "instream" C.k2, .ref C.f⟩, ⟨C.h3, .str "whitespace" C.k3, .str "\n\t\r " C.t3⟩, ⟨C.h4, .str "pushback" C.k4, .ref C.pb⟩]
structure LxS (P : Params) (h : Heap) (C : LxC) : Prop where
  hl : lamIs P C.pa C.lb C.ls
  l_ : h.get? C.l = some (instObj 300 C.dl)
  f_ : h.get? C.f = some (instObj 300 C.df)
  df_ : h.get? C.df = some (dictOf C.eF C.nF)
  read : getL "read" C.eF = some (some (.ref C.lam))
  lam_ : h.get? C.lam = some (kla_obj "<lambda>" C.qn C.pa C.lb C.ls [("signs", C.c)] C.pm C.c' C.ctv)
  c'_ : h.get? C.c' = some C.oC
  cf : ∃ vs tq, C.oC.data = .fields vs ∧ vs[1]? = some (.str C.qn tq)
  c_ : h.get? C.c = some C.oc
  cc : C.oc.data = .cell (some (.ref C.sg))
  o1 : @LT.lt Nat _ C.c C.sg
  o2 : @LT.lt Nat _ C.sg C.df
  o3 : @LT.lt Nat _ C.df C.f
  o4 : @LT.lt Nat _ C.f C.c'
  o5 : @LT.lt Nat _ C.c' C.lam
  o6 : @LT.lt Nat _ C.lam C.dl
  o7 : @LT.lt Nat _ C.dl C.l
noncomputable def sg1 (c : Nat) : PySem.Str := ⟨#[c]⟩
noncomputable def sgV (rest : List (Nat × Tok)) : List Value := rest.map fun p => .str (sg1 p.1) p.2
noncomputable def hdS : List (Nat × Tok) → PySem.Str
  | [] => ""
  | p :: _ => sg1 p.1
/-- the lexer: the signs ahead, the row -/
noncomputable def Lx (P : Params) (h : Heap) (C : LxC) (rest : List (Nat × Tok)) (n : Int) : Prop := LxS P h C ∧ (∃ k, h.get? C.sg = some (listO (sgV rest).toArray k)) ∧ ∃ t, h.get? C.dl = some (dictOf (lxEs C n t) 4)
noncomputable def lnS (rest : List (Nat × Tok)) (n : Int) : Int := if (hdS rest == ("
" : PySem.Str)) = true then n + 1 else n
theorem nin2 {a b c : Addr} (h1 : @Ne Nat a b) (h2 : @Ne Nat a c) : a ∉ [b, c] := fun q => by
  simp only [List.mem_cons, List.not_mem_nil, or_false] at q; exact q.elim h1 h2
theorem lx_out {c sg df f c' lam dl l : Addr} (o1 : @LT.lt Nat _ c sg) (o2 : @LT.lt Nat _ sg df) (o3 : @LT.lt Nat _ df f) (o4 : @LT.lt Nat _ f c') (o5 : @LT.lt Nat _ c' lam) (o6 : @LT.lt Nat _ lam dl) (o7 : @LT.lt Nat _ dl l) : l ∉ [dl, sg] ∧ f ∉ [dl, sg] ∧ df ∉ [dl, sg] ∧ lam ∉ [dl, sg] ∧ c' ∉ [dl, sg] ∧ c ∉ [dl, sg] := by
  have a1 : @LT.lt Nat _ sg f := Nat.lt_trans o2 o3
  have a2 : @LT.lt Nat _ sg c' := Nat.lt_trans a1 o4
  have a3 : @LT.lt Nat _ sg lam := Nat.lt_trans a2 o5
  have a4 : @LT.lt Nat _ sg dl := Nat.lt_trans a3 o6
  have b1 : @LT.lt Nat _ c' dl := Nat.lt_trans o5 o6
  have b2 : @LT.lt Nat _ f dl := Nat.lt_trans o4 b1
  have b3 : @LT.lt Nat _ df dl := Nat.lt_trans o3 b2
  exact ⟨nin2 (Nat.ne_of_gt o7) (Nat.ne_of_gt (Nat.lt_trans a4 o7)), nin2 (Nat.ne_of_lt b2) (Nat.ne_of_gt a1), nin2 (Nat.ne_of_lt b3) (Nat.ne_of_gt o2), nin2 (Nat.ne_of_lt o6) (Nat.ne_of_gt a3), nin2 (Nat.ne_of_lt b1) (Nat.ne_of_gt a2), nin2 (Nat.ne_of_lt (Nat.lt_trans o1 a4)) (Nat.ne_of_lt o1)⟩
theorem LxS.but {P : Params} {h h' : Heap} {C : LxC} (X : LxS P h C) (k : KeepsBut [C.dl, C.sg] h h') : LxS P h' C := by
  obtain ⟨hl, x1, x2, x3, x4, x5, x6, x7, x8, x9, o1, o2, o3, o4, o5, o6, o7⟩ := X
  have z := lx_out o1 o2 o3 o4 o5 o6 o7
  exact ⟨hl, k _ _ z.1 x1, k _ _ z.2.1 x2, k _ _ z.2.2.1 x3, x4, k _ _ z.2.2.2.1 x5, k _ _ z.2.2.2.2.1 x6, x7, k _ _ z.2.2.2.2.2 x8, x9, o1, o2, o3, o4, o5, o6, o7⟩
theorem fillC3 (w : World) (h : Heap) (X : (Mine.hd.heap_39 w.params).In h) (e : PySem.Challenge.rw_wu0089_01.foot = PySem.Challenge.rw_wu0089_01.foot) : True := by
  revert X e; k_fill; intro _ _; trivial

theorem kw_C3_2 : True := by
  k_with "ktr_enter" => (refine' enter_fn ?q7a ?q7d ?q7e ?q7f ?q7g ?q7h ?q7i ?_ ?q7j ?q7k ?q7b ?q7c; (case q7g => assumption); (case q7a => assumption); (case q7e => k_is); (case q7f => k_is); (case q7d => decide); (case q7h => first | exact BindsTo.of_eq rfl | exact binds_K (Gd.here (by assumption)).X rfl (by k_is) rfl rfl rfl); (case q7j => decide); (case q7i => exact locs rfl); (case q7k => exact rfl); (case q7b => exact rfl); (case q7c => exact rfl); k_whole; rintro zg' zL' zh' zp' zl' zmean' zmg' zmb' zT' zX' zGN zF' zN' zl1 zK1 zhL'; (try dsimp only); (try k_fold))
  k_with "getAttr ref" => (k_here; (with_reducible show wpAny _ _ (getAttr (Value.ref _) _ _) _ _ _); k_dflt (refine' get_own ?q24a ?q24b ?q24c ?q24d ?q24e ?q24f ?q24g ?q24h ?q24i ?_; (case q24c => k_inst); (case q24a => k_asm); (case q24b => k_asm); (case q24d => k_is); (case q24e => k_is); (case q24f => k_is); (case q24g => k_is); (case q24h => with_reducible assumption); (case q24i => k_handed); k_whole))
  k_with "callWith ref" => (k_here; k_dflt (refine' callWith_F ?q30a ?_; (case q30a => exact FnAt.of (by k_asm) (by k_mem)); k_whole))
  k_with "call ref" => (k_here; (with_reducible show wpAny _ _ (call (Value.ref _) _) _ _ _); refine stop ?_)
  trivial
section
variable {w : World} {s : Shared} {A : Around} {lam c' c sg L : Addr} {g : Heap} {m : PySem.Str → Option Value} {news : List (Addr × Obj)} {pa : Arguments} {lb : Expr} {ls : Scope} {qn : PySem.Str} {pm ctv : Value} {oC oc : Obj} {vs : Array Value} {tq t1 : Tok} {n : Nat} {Q E : Value → Shared → Prop}
theorem all4 {a b c d : Addr} {p : Addr → Prop} (h : p a) (h2 : p b) (h3 : p c) (h4 : p d) : ∀ x ∈ [a, b, c, d], p x := fun x hx => by simp only [List.mem_cons, List.not_mem_nil, or_false] at hx; rcases hx with rfl | rfl | rfl | rfl <;> assumption
theorem lam_W {rest : List (Nat × Tok)} (B : Bs w g) (F : Fr g L s.heap m) (N : News g L s.heap news) (hl : lamIs w.params pa lb ls) (h1 : (lam, kla_obj "<lambda>" qn pa lb ls [("signs", c)] pm c' ctv) ∈ news) (h2 : (c', oC) ∈ news) (h2a : oC.data = .fields vs) (h2b : vs[1]? = some (.str qn tq))
    (h3 : (c, oc) ∈ news) (h3a : oc.data = .cell (some (.ref sg))) (h4 : (sg, listO (sgV rest).toArray n) ∈ news) (h5 : rest.length ≤ sizeLine) (hne : @Ne Nat lam sg ∧ @Ne Nat c' sg ∧ @Ne Nat c sg) (hA : Le A (At 550 3500))
    (h : ∀ h' tk t n', Fr g L h' m → KeepsBut [sg] s.heap h' → h'.get? sg = some (listO (sgV rest.tail).toArray n') → Q (.str (hdS rest) t) { s with heap := h', toks := tk }) :
    wpAny (model P0 w) A (call (.ref lam) [.int 1 t1]) Q E s := by
  have G := gdN B F N (all4 ⟨_, h1⟩ ⟨_, h2⟩ ⟨_, h3⟩ ⟨_, h4⟩)
  refine at_le hA (wpAny_call ?_)
  cases rest with
  | nil => exact lam_nil hl G (N _ h1).1 (N _ h2).1 h2a h2b (N _ h3).1 h3a (N _ h4).1 fun h' tk t k => h h' tk t n (fr_keeps F k) (fun b o _ e => k b o e) (k _ _ (N _ h4).1)
  | cons p r => exact lam_cons hl G (N _ h1).1 (N _ h2).1 h2a h2b (N _ h3).1 h3a (N _ h4).1 (by simpa [sgV] using h5) hne fun h' tk k e => h h' tk p.2 (n + 1) (fr_but F N h4 k) k e
end
section
variable {w : World} {s : Shared} {C : LxC} {rest : List (Nat × Tok)} {n : Int} {Q E : Value → Shared → Prop}
theorem read_char_code (X : Lx w.params s.heap C rest n) (G : Gd w s.heap [C.l, C.dl, C.f, C.df, C.lam, C.c', C.c, C.sg]) (hz : rest.length ≤ sizeLine)
    (hQ : ∀ h' tk t, KeepsBut [C.dl, C.sg] s.heap h' → Lx w.params h' C rest.tail (lnS rest n) → Q (.str (hdS rest) t) { s with heap := h', toks := tk }) :
    codeAny (model P0 w) (At 530 3300) (.call (.ref 283) ⟨[.ref C.l], []⟩) (fun r s' => match r with | .ok (.ret v) => Q v s' | .ok _ => False | .error e => E e s') s := by
  have XS := X.1
  obtain ⟨⟨hl, x1, x2, x3, x4, x5, x6, ⟨vs, tq, x7, x7b⟩, x8, x9, o1, o2, o3, o4, o5, o6, o7⟩, ⟨k, x10⟩, t, x11⟩ := X
  have hn : ∀ q ∈ [(C.l, instObj 300 C.dl), (C.dl, dictOf (lxEs C n t) 4), (C.f, instObj 300 C.df), (C.df, dictOf C.eF C.nF), (C.lam, kla_obj "<lambda>" C.qn C.pa C.lb C.ls [("signs", C.c)] C.pm C.c' C.ctv), (C.c', C.oC), (C.c, C.oc), (C.sg, listO (sgV rest).toArray k)], s.heap.get? q.1 = some q.2 := by
    refine mem_all8 ?_ ?_ ?_ ?_ ?_ ?_ ?_ ?_ <;> assumption
  have a1 : @LT.lt Nat _ C.sg C.f := Nat.lt_trans o2 o3
  have a2 : @LT.lt Nat _ C.sg C.c' := Nat.lt_trans a1 o4
  have a3 : @LT.lt Nat _ C.sg C.lam := Nat.lt_trans a2 o5
  have a4 : @LT.lt Nat _ C.sg C.dl := Nat.lt_trans a3 o6
  have a5 : @LT.lt Nat _ C.sg C.l := Nat.lt_trans a4 o7
  have b1 : @LT.lt Nat _ C.c' C.dl := Nat.lt_trans o5 o6
  have b2 : @LT.lt Nat _ C.f C.dl := Nat.lt_trans o4 b1
  have b3 : @LT.lt Nat _ C.df C.dl := Nat.lt_trans o3 b2
  have b4 : @LT.lt Nat _ C.c C.dl := Nat.lt_trans o1 a4
  dsimp only [lxEs] at hn
  k_dflt ktr_enter
  k_steps
  unfold Stop
  rename Gnd w s.heap _ _ => GN
  rename Fr _ _ _ _ => F
  rename News _ _ _ _ => N
  refine lam_W (rest := rest) GN.bs F N hl (by k_mem) (by k_mem) x7 x7b (by k_mem) x9 (by k_mem) hz ⟨by k_ne, by k_ne, by k_ne⟩ (le_at rfl rfl rfl) (fun h2 tk2 t2 n2 F2 k2 e2 => ?_)
  have N2 := news_but N (by k_upd) k2 e2
  clear F N
  k_steps
  · rename Fr _ _ _ _ => F
    rename News _ _ _ _ => N
    have b : (hdS rest == PySem.Str.ofString "\n") = true := by assumption
    have kk := gnd_but (S := [C.dl, C.sg]) GN F.keep (by
      refine mem_all8 ?_ ?_ ?_ ?_ ?_ ?_ ?_ ?_
      · exact .inr ⟨x1, (N (C.l, _) (by k_mem)).1⟩
      · exact .inl (.head _)
      · exact .inr ⟨x2, (N (C.f, _) (by k_mem)).1⟩
      · exact .inr ⟨x3, (N (C.df, _) (by k_mem)).1⟩
      · exact .inr ⟨x5, (N (C.lam, _) (by k_mem)).1⟩
      · exact .inr ⟨x6, (N (C.c', _) (by k_mem)).1⟩
      · exact .inr ⟨x8, (N (C.c, _) (by k_mem)).1⟩
      · exact .inl (.tail _ (.head _)))
    have e1 := (N (C.sg, _) (by k_mem)).1
    have e2 := (N (C.dl, _) (by k_mem)).1
    try dsimp only
    refine hQ _ _ _ kk ⟨XS.but kk, ⟨_, e1⟩, ?_⟩
    unfold lnS
    rw [if_pos b]
    exact ⟨_, e2⟩
  · rename Fr _ _ _ _ => F
    rename News _ _ _ _ => N
    have b : (hdS rest == PySem.Str.ofString "\n") = false := by assumption
    have kk := gnd_but (S := [C.dl, C.sg]) GN F.keep (by
      refine mem_all8 ?_ ?_ ?_ ?_ ?_ ?_ ?_ ?_
      · exact .inr ⟨x1, (N (C.l, _) (by k_mem)).1⟩
      · exact .inl (.head _)
      · exact .inr ⟨x2, (N (C.f, _) (by k_mem)).1⟩
      · exact .inr ⟨x3, (N (C.df, _) (by k_mem)).1⟩
      · exact .inr ⟨x5, (N (C.lam, _) (by k_mem)).1⟩
      · exact .inr ⟨x6, (N (C.c', _) (by k_mem)).1⟩
      · exact .inr ⟨x8, (N (C.c, _) (by k_mem)).1⟩
      · exact .inl (.tail _ (.head _)))
    have e1 := (N (C.sg, _) (by k_mem)).1
    have e2 := (N (C.dl, _) (by k_mem)).1
    try dsimp only
    refine hQ _ _ _ kk ⟨XS.but kk, ⟨_, e1⟩, ?_⟩
    unfold lnS
    rw [if_neg (by rw [b]; decide)]
    exact ⟨_, e2⟩
end
end
section
theorem slot_ci_next : Slot "callable_iterator" "__next__" "callable_iterator.__next__" :=
  .of (owner := "callable_iterator") (n := "__next__") (by rw [typeLookup_type, builtinLookup_eq_fast]; kernel_rfl) (by decide +kernel) (by decide +kernel) (by decide +kernel)
    (by first | exact .inl (by decide +kernel) | exact .inr (by decide +kernel)) (by rw [isSubtype_type]; kernel_rfl)
theorem entry_ci_next : entryFor table "callable_iterator.__next__" = some Builtin.«callable_iterator.__next__» := entryFor_of_tree (by kernel_rfl)
theorem args_ci_next (a : Value) : argsOk "callable_iterator.__next__" ⟨[a], []⟩ := by unfold argsOk; kernel_rfl
noncomputable abbrev ciE : Obj := { cls := .type "callable_iterator", data := .fields #[.none, .none, .bool true] }
noncomputable abbrev ciO (q : Addr) (t : Tok) : Obj := { cls := .type "callable_iterator", data := .fields #[.ref q, .str "" t, .bool false] }
section
variable {w : World} {s : Shared} {A : Around} {E : Value → Shared → Prop} {I q l : Addr} {t : Tok}
theorem wpAny_callBorrowed {M : Model} {f : Value} {pos : List Value} {Q : Value → Shared → Prop}
    (hc : codeAny M A (.call f ⟨pos, []⟩) (fun r s' => match r with | .ok (.ret v) => Q v s' | .ok _ => False | .error e => E e s') s) :
    wpAny M A (callBorrowed f pos) Q E s := fun Γ p hΓ => by
  have z : Sem.wp M Γ (callBorrowed f pos) (fun v _ => Q v) (fun e _ => E e) p s = Sem.wp M Γ (runValue (.call f ⟨pos, []⟩)) (fun v _ => Q v) (fun e _ => E e) p s := by
    rw [Sem.wp_runValue]
    unfold callBorrowed
    show wpCode M (Γ.enter _ none p) _ p s = _
    congr 1; funext r s'
    rcases r with e | (_ | _ | _ | _) <;> rfl
  rw [z]
  exact wpAny_runValue hc Γ p hΓ
theorem borrows_yes {fn : Addr} {ofn : Obj} {fd : FuncData} {Q : Bool → Shared → Prop} (hq : s.heap.get? q = some (methodObj (.ref fn) (.ref l))) (hf : s.heap.get? fn = some ofn) (hd : ofn.data = .func fd) (h : Q true s) :
    wpAny (model P0 w) A (borrowsExactly (.ref q)) Q E s := by
  unfold borrowsExactly
  dsimp only
  refine wpAny_bind (wpAny_load hq ?_)
  dsimp only
  rw [if_pos (by decide +kernel)]
  refine wpAny_bind (wpAny_load hf ?_)
  rw [hd]
  exact wpAny_pure h
theorem ci_next {ofn : Obj} {fd : FuncData} {Q : Option Value → Shared → Prop} (hh : A.handled = none) (hI : s.heap.get? I = some (ciO q t)) (hq : s.heap.get? q = some (methodObj (.ref 283) (.ref l)))
    (hf : s.heap.get? 283 = some ofn) (hd : ofn.data = .func fd)
    (hc : codeAny (model P0 w) A.in1 (.call (.ref 283) ⟨[.ref l], []⟩) (fun r s' => ∃ x u, r = .ok (.ret (.str x u)) ∧ s'.heap.get? I = some (ciO q t) ∧ s'.heap.get? q = some (methodObj (.ref 283) (.ref l)) ∧ s'.heap.get? 283 = some ofn ∧
      ((x ≠ "" → Q (some (.str x u)) s') ∧ (x = "" → ∀ h' tk, KeepsBut [I] s'.heap h' → h'.get? I = some ciE → Q none { s' with heap := h', toks := tk }))) s) :
    wpAny (model P0 w) A (pyNext (.ref I)) Q E s := by
  have hT : s.TypeIs (.ref I) "callable_iterator" := ⟨_, hI, rfl⟩
  unfold pyNext
  refine wpAny_bind (wpAny_attempt (wpAny_callSpecial?_slot (name := PySem.Str.ofString "__next__") hT slot_ci_next
    (wpAny_call_entry slot_ci_next hT entry_ci_next ?_ (args_ci_next _))))
  unfold Builtin.«callable_iterator.__next__»
  refine wpAny_bind ?_
  show wpAny _ _ (pure (Value.ref I, [])) _ _ _
  refine wpAny_pure ?_
  dsimp only
  refine wpAny_bind (wpAny_field hI rfl (x := .bool false) rfl ?_)
  rw [if_neg (by decide)]
  refine wpAny_bind (wpAny_field hI rfl (x := .ref q) rfl ?_)
  refine wpAny_bind (wpAny_attempt ?_)
  unfold callOutOfASlot
  refine wpAny_bind (borrows_yes hq hf hd ?_)
  rw [if_pos rfl]
  refine wpAny_callBorrowed (method_call hq ?_)
  refine codeAny_mono hc (fun r s1 hr => ?_)
  obtain ⟨x, u, rfl, hI1, hq1, hf1, hne, heq⟩ := hr
  dsimp only
  refine wpAny_bind (wpAny_field hI1 rfl (x := .bool false) rfl ?_)
  rw [if_neg (by decide)]
  refine wpAny_bind (wpAny_field hI1 rfl (x := .str "" t) rfl ?_)
  refine wpAny_bind (wpAny_holding (wpAny_eqBool_str ?_))
  by_cases hx : x = ""
  · subst hx
    rw [if_neg (by decide)]
    refine wpAny_bind (wpAny_rule ?_)
    refine wpAny_bind ?_
    show wpAny _ _ (field (.ref I) 0 >>= _) _ _ _
    refine wpAny_bind (wpAny_field hI1 rfl (x := .ref q) rfl ?_)
    refine wpAny_bind ?_
    show wpAny _ _ (borrowsExactly (.ref q) >>= _) _ _ _
    refine wpAny_bind (borrows_yes hq1 hf1 hd ?_)
    rw [if_pos rfl]
    refine wpAny_pure ?_
    refine wpAny_bind (wpAny_setField_rec hI1 (by simp) fun h2 g2 b2 => ?_)
    refine wpAny_bind (wpAny_setField_rec g2 (by simp) fun h3 g3 b3 => ?_)
    refine wpAny_setField_rec g3 (by simp) fun h4 g4 b4 => ?_
    refine wpAny_bind ?_
    show wpAny _ _ (newExc (.type "StopIteration") [] >>= _) _ _ _
    refine wpAny_bind ?_
    simp only [newExc, newTuple]
    refine wpAny_bind (wpAny_newObj_type ?_ (by size_fits))
    refine wpAny_bind (m := firstArgMember _ _) (wpAny_of_eq (a := Value.none) (by first | rfl | (simp only [firstArgMember]; rfl)) ?_)
    refine wpAny_newObj_type ?_ (by size_fits)
    refine wpAny_pure ?_
    simp only [raiseNew]
    refine wpAny_bind (wpAny_handled ?_)
    rw [show A.in1.handled = none from hh]
    refine wpAny_throw ?_
    refine wpAny_bind (wpAny_isInstance (T := "StopIteration") (b := true) ⟨_, Heap.get?_push_size _ rfl, rfl⟩ isSubtype_stop ?_)
    refine wpAny_pure (heq rfl _ _ (fun b o nb e => ?_) (Heap.get?_push_of_some _ (Heap.get?_push_of_some _ g4)))
    refine Heap.get?_push_of_some _ (Heap.get?_push_of_some _ ?_)
    have nb' : b ≠ I := fun q => nb (by simp [q])
    have z := ((b2.trans b3).trans b4).2 b nb'
    exact z.trans e
  · rw [if_pos (by simp; exact fun q => hx q.symm)]
    exact wpAny_pure ⟨_, rfl, wpAny_pure (hne hx)⟩
theorem ci_ended {Q : Option Value → Shared → Prop} (hh : A.handled = none) (hI : s.heap.get? I = some ciE)
    (hQ : ∀ h' tk, Keeps s.heap h' → Q none { s with heap := h', toks := tk }) : wpAny (model P0 w) A (pyNext (.ref I)) Q E s := by
  have hT : s.TypeIs (.ref I) "callable_iterator" := ⟨_, hI, rfl⟩
  unfold pyNext
  refine wpAny_bind (wpAny_attempt (wpAny_callSpecial?_slot (name := PySem.Str.ofString "__next__") hT slot_ci_next
    (wpAny_call_entry slot_ci_next hT entry_ci_next ?_ (args_ci_next _))))
  unfold Builtin.«callable_iterator.__next__»
  refine wpAny_bind ?_
  show wpAny _ _ (pure (Value.ref I, [])) _ _ _
  refine wpAny_pure ?_
  dsimp only
  refine wpAny_bind (wpAny_field hI rfl (x := .bool true) rfl ?_)
  rw [if_pos (by decide)]
  refine wpAny_bind (wpAny_rule ?_)
  refine wpAny_bind ?_
  show wpAny _ _ (newExc (.type "StopIteration") [] >>= _) _ _ _
  refine wpAny_bind ?_
  simp only [newExc, newTuple]
  refine wpAny_bind (wpAny_newObj_type ?_ (by size_fits))
  refine wpAny_bind (m := firstArgMember _ _) (wpAny_of_eq (a := Value.none) (by first | rfl | (simp only [firstArgMember]; rfl)) ?_)
  refine wpAny_newObj_type ?_ (by size_fits)
  simp only [raiseNew]
  refine wpAny_bind (wpAny_handled ?_)
  rw [show A.in1.handled = none from hh]
  refine wpAny_bind (wpAny_pure (wpAny_throw ?_))
  refine wpAny_bind (wpAny_isInstance (T := "StopIteration") (b := true) ⟨_, Heap.get?_push_size _ rfl, rfl⟩ isSubtype_stop ?_)
  exact wpAny_pure (hQ _ _ fun b o e => Heap.get?_push_of_some _ (Heap.get?_push_of_some _ e))
end
end
section
section
variable {w : World} {s : Shared} {q l : Addr} {t : Tok} {Q E : Value → Shared → Prop}
local macro_rules | `(tactic| x_close) => `(tactic| (refine xEnd (by assumption) fun D => ?_; apply_assumption <;> first | exact mem_keeps D | exact (noneX D 0 rfl).1 | exact (noneX D 0 rfl).2))
theorem ci_new (XX : (KX w.params).In s.heap) (hq : s.heap.get? q = some ⟨.type "method", none, .fields #[.ref 283, .ref l], #[]⟩)
   (hQ : ∀ h' I tk, Keeps s.heap h' → s.heap.get? I = none → h'.get? I = some (ciO q t) → Q (.ref I) ⟨h', s.gens, s.drawn, tk, s.os⟩) :
   wpAny (model PySem.Challenge.pw_wu0089_01 w) (At 600 4000) (call (.builtin "iter") [.ref q, .str "" t]) Q E s := by
  x_run
end
end
section
structure LxK (P : Params) (C : LxC) : Prop where
  hl : lamIs P C.pa C.lb C.ls
  read : getL "read" C.eF = some (some (.ref C.lam))
  cf : ∃ vs tq, C.oC.data = .fields vs ∧ vs[1]? = some (.str C.qn tq)
  cc : C.oc.data = .cell (some (.ref C.sg))
  o1 : @LT.lt Nat _ C.c C.sg
  o2 : @LT.lt Nat _ C.sg C.df
  o3 : @LT.lt Nat _ C.df C.f
  o4 : @LT.lt Nat _ C.f C.c'
  o5 : @LT.lt Nat _ C.c' C.lam
  o6 : @LT.lt Nat _ C.lam C.dl
  o7 : @LT.lt Nat _ C.dl C.l
  o8 : @LT.lt Nat _ C.l C.pb
noncomputable abbrev lxNews (C : LxC) (rest : List (Nat × Tok)) (n : Int) (t : Tok) (k kp : Nat) : List (Addr × Obj) :=
  [(C.l, instObj 300 C.dl), (C.dl, dictOf (lxEs C n t) 4), (C.f, instObj 300 C.df), (C.df, dictOf C.eF C.nF), (C.lam, kla_obj "<lambda>" C.qn C.pa C.lb C.ls [("signs", C.c)] C.pm C.c' C.ctv), (C.c', C.oC), (C.c, C.oc), (C.sg, listO (sgV rest).toArray k), (C.pb, listO #[] kp)]
section
variable {w : World} {s : Shared} {A : Around} {g : Heap} {L I q : Addr} {m : PySem.Str → Option Value} {news : List (Addr × Obj)} {C : LxC} {rest : List (Nat × Tok)} {n : Int} {t ti : Tok} {k kp : Nat} {E : Value → Shared → Prop}
theorem lx_of (K : LxK w.params C) {h : Heap} (N : News g L h news) (hs : ∀ p ∈ lxNews C rest n t k kp, p ∈ news) : Lx w.params h C rest n := by
  have z : ∀ p ∈ lxNews C rest n t k kp, h.get? p.1 = some p.2 := fun p hp => (N p (hs p hp)).1
  obtain ⟨hl, rd, cf, cc, o1, o2, o3, o4, o5, o6, o7, o8⟩ := K
  exact ⟨⟨hl, z (C.l, _) (by k_mem), z (C.f, _) (by k_mem), z (C.df, _) (by k_mem), rd, z (C.lam, _) (by k_mem), z (C.c', _) (by k_mem), cf, z (C.c, _) (by k_mem), cc, o1, o2, o3, o4, o5, o6, o7⟩, ⟨k, z (C.sg, _) (by k_mem)⟩, t, z (C.dl, _) (by k_mem)⟩
theorem lx_own {h : Heap} (B : Bs w g) (F : Fr g L h m) (N : News g L h news) (hs : ∀ p ∈ lxNews C rest n t k kp, p ∈ news) : Gd w h [C.l, C.dl, C.f, C.df, C.lam, C.c', C.c, C.sg] := by
  refine gdN B F N fun a ha => ?_
  simp only [List.mem_cons, List.not_mem_nil, or_false] at ha
  rcases ha with rfl | rfl | rfl | rfl | rfl | rfl | rfl | rfl <;> exact ⟨_, hs (_, _) (by k_mem)⟩
/-- after a sign was read -/
theorem lx_after (K : LxK w.params C) {h h' : Heap} {ex : List (Addr × Obj)} {r' : List (Nat × Tok)} {n' : Int} (N : News g L h (ex ++ lxNews C rest n t k kp)) (hx : ∀ p ∈ ex, p.1 ≠ C.dl ∧ p.1 ≠ C.sg) (kk : KeepsBut [C.dl, C.sg] h h') (X : Lx w.params h' C r' n') :
    ∃ t' k', News g L h' (ex ++ lxNews C r' n' t' k' kp) := by
  obtain ⟨_, ⟨k', e1⟩, t', e2⟩ := X
  obtain ⟨hl, rd, cf, cc, o1, o2, o3, o4, o5, o6, o7, o8⟩ := K
  refine ⟨t', k', news_of N fun p hp => ?_⟩
  have wz := lx_out o1 o2 o3 o4 o5 o6 o7
  rcases List.mem_append.mp hp with hp | hp
  · exact ⟨kk _ _ (nin2 (hx p hp).1 (hx p hp).2) (N p (List.mem_append_left _ hp)).1, p.2, List.mem_append_left _ hp⟩
  · have z : ∀ p ∈ lxNews C rest n t k kp, h.get? p.1 = some p.2 ∧ p ∈ ex ++ lxNews C rest n t k kp := fun p hp => ⟨(N p (List.mem_append_right _ hp)).1, List.mem_append_right _ hp⟩
    simp only [List.mem_cons, List.not_mem_nil, or_false] at hp
    rcases hp with rfl | rfl | rfl | rfl | rfl | rfl | rfl | rfl | rfl
    · have y := z (C.l, _) (by k_mem); exact ⟨kk _ _ wz.1 y.1, _, y.2⟩
    · have y := z (C.dl, _) (by k_mem); exact ⟨e2, _, y.2⟩
    · have y := z (C.f, _) (by k_mem); exact ⟨kk _ _ wz.2.1 y.1, _, y.2⟩
    · have y := z (C.df, _) (by k_mem); exact ⟨kk _ _ wz.2.2.1 y.1, _, y.2⟩
    · have y := z (C.lam, _) (by k_mem); exact ⟨kk _ _ wz.2.2.2.1 y.1, _, y.2⟩
    · have y := z (C.c', _) (by k_mem); exact ⟨kk _ _ wz.2.2.2.2.1 y.1, _, y.2⟩
    · have y := z (C.c, _) (by k_mem); exact ⟨kk _ _ wz.2.2.2.2.2 y.1, _, y.2⟩
    · have y := z (C.sg, _) (by k_mem); exact ⟨e1, _, y.2⟩
    · have y := z (C.pb, _) (by k_mem); exact ⟨kk _ _ (nin2 (Nat.ne_of_gt (Nat.lt_trans o7 o8)) (Nat.ne_of_gt (Nat.lt_trans o2 (Nat.lt_trans o3 (Nat.lt_trans o4 (Nat.lt_trans o5 (Nat.lt_trans o6 (Nat.lt_trans o7 o8)))))))) y.1, _, y.2⟩
theorem own2 (N : News g L s.heap news) (hs : ∀ p ∈ lxNews C rest n t k kp, p ∈ news) : ∀ a ∈ [C.dl, C.sg], ∃ o, (a, o) ∈ news := fun a ha => by
  simp only [List.mem_cons, List.not_mem_nil, or_false] at ha
  rcases ha with rfl | rfl <;> exact ⟨_, hs (_, _) (by k_mem)⟩
theorem read_W {ex : List (Addr × Obj)} {Q : Value → Shared → Prop} (K : LxK w.params C) (B : Bs w g) (F : Fr g L s.heap m) (N : News g L s.heap (ex ++ lxNews C rest n t k kp)) (hx : ∀ p ∈ ex, p.1 ≠ C.dl ∧ p.1 ≠ C.sg) (hz : rest.length ≤ sizeLine) (hA : Le A (At 530 3300))
    (h : ∀ h' tk u t' k', Fr g L h' m → News g L h' (ex ++ lxNews C rest.tail (lnS rest n) t' k' kp) → Q (.str (hdS rest) u) { s with heap := h', toks := tk }) :
    wpAny (model P0 w) A (call (.ref 283) [.ref C.l]) Q E s := by
  have hs : ∀ p ∈ lxNews C rest n t k kp, p ∈ ex ++ lxNews C rest n t k kp := fun p hp => List.mem_append_right _ hp
  refine at_le hA (wpAny_call (read_char_code (lx_of K N hs) (lx_own B F N hs) hz fun h' tk u kk X => ?_))
  obtain ⟨t', k', N'⟩ := lx_after K N hx kk X
  exact h h' tk u t' k' (fr_butS F N (own2 N hs) kk) N'
theorem next_W {ex : List (Addr × Obj)} {Q : Option Value → Shared → Prop} (K : LxK w.params C) (B : Bs w g) (F : Fr g L s.heap m) (N : News g L s.heap ((I, ciO q ti) :: (q, methodObj (.ref 283) (.ref C.l)) :: ex ++ lxNews C rest n t k kp))
    (hx : ∀ p ∈ (I, ciO q ti) :: (q, methodObj (.ref 283) (.ref C.l)) :: ex, p.1 ≠ C.dl ∧ p.1 ≠ C.sg) (hI : ∀ p ∈ (q, methodObj (.ref 283) (.ref C.l)) :: ex ++ lxNews C rest n t k kp, p.1 ≠ I) (hz : rest.length ≤ sizeLine) (hA : Le A.in1 (At 530 3300))
    (h1 : ∀ p r, rest = p :: r → ∀ h' tk u t' k', Fr g L h' m → News g L h' ((I, ciO q ti) :: (q, methodObj (.ref 283) (.ref C.l)) :: ex ++ lxNews C r (lnS rest n) t' k' kp) → Q (some (.str (sg1 p.1) u)) { s with heap := h', toks := tk })
    (h0 : rest = [] → ∀ h' tk t' k', Fr g L h' m → News g L h' ((I, ciE) :: (q, methodObj (.ref 283) (.ref C.l)) :: ex ++ lxNews C [] n t' k' kp) → Q none { s with heap := h', toks := tk }) :
    wpAny (model P0 w) A (pyNext (.ref I)) Q E s := by
  have hs : ∀ p ∈ lxNews C rest n t k kp, p ∈ (I, ciO q ti) :: (q, methodObj (.ref 283) (.ref C.l)) :: ex ++ lxNews C rest n t k kp := fun p hp => List.mem_append_right _ hp
  obtain ⟨ofn, fd, hof, hofd⟩ : ∃ ofn fd, (Mine.hd.heap_39 w.params).lookup 283 = some ofn ∧ ofn.data = .func fd := ⟨_, _, rfl, rfl⟩
  have of0 := B.X _ _ hof
  have X := lx_of K N hs
  refine ci_next hA.h (N _ (.head _)).1 (N _ (.tail _ (.head _))).1 (F.keep _ _ of0) hofd (at_le_code hA (codeAny_mono (read_char_code (Q := fun v s' => ∃ x u, v = .str x u ∧ s'.heap.get? I = some (ciO q ti) ∧ s'.heap.get? q = some (methodObj (.ref 283) (.ref C.l)) ∧ s'.heap.get? 283 = some ofn ∧
      ((x ≠ "" → Q (some (.str x u)) s') ∧ (x = "" → ∀ h' tk, KeepsBut [I] s'.heap h' → h'.get? I = some ciE → Q none { s' with heap := h', toks := tk }))) (E := fun _ _ => False) X (lx_own B F N hs) hz fun h' tk u kk X' => ?_) fun r s' hr => by
    rcases r with e | (_ | _ | _ | v)
    · exact hr.elim
    · exact hr.elim
    · exact hr.elim
    · exact hr.elim
    · obtain ⟨x, u, rfl, z⟩ := hr
      exact ⟨x, u, rfl, z⟩))
  obtain ⟨t', k', N'⟩ := lx_after K N hx kk X'
  have F' := fr_butS F N (own2 N hs) kk
  refine ⟨_, u, rfl, (N' _ (.head _)).1, (N' _ (.tail _ (.head _))).1, F'.keep _ _ of0, fun hne => ?_, fun he h2 tk2 k2 eI => ?_⟩
  · cases rest with
    | nil => exact absurd rfl hne
    | cons p r => exact h1 p r rfl h' tk u t' k' F' N'
  · cases rest with
    | cons p r => exact absurd (congrArg (fun x => x.cps.size) he) (by simp [hdS, sg1]; decide)
    | nil =>
      refine h0 rfl h2 tk2 t' k' (fr_but F' N' (.head _) k2) (news_of (news := (I, ciO q ti) :: (q, methodObj (.ref 283) (.ref C.l)) :: ex ++ lxNews C [] n t' k' kp) N' fun p hp => ?_)
      rcases List.mem_cons.mp (show p ∈ (I, ciE) :: ((q, methodObj (.ref 283) (.ref C.l)) :: ex ++ lxNews C [] n t' k' kp) from hp) with rfl | hp
      · exact ⟨eI, _, .head _⟩
      refine ⟨k2 _ _ (fun q => ?_) (N' p (.tail _ hp)).1, p.2, .tail _ hp⟩
      have e := List.mem_singleton.mp q
      rcases List.mem_append.mp (show p ∈ ((_ :: ex) ++ _) from hp) with hp2 | hp2
      · exact hI p (List.mem_append_left _ hp2) e
      · have : ∃ o, (p.1, o) ∈ lxNews C [] n t k kp := by
          simp only [List.mem_cons, List.not_mem_nil, or_false] at hp2
          rcases hp2 with rfl | rfl | rfl | rfl | rfl | rfl | rfl | rfl | rfl <;> exact ⟨_, by k_mem⟩
        obtain ⟨o, ho⟩ := this
        exact hI (p.1, o) (List.mem_append_right _ ho) e
end
end
section
theorem slot_ci_iter : Slot "callable_iterator" "__iter__" "callable_iterator.__iter__" :=
  .of (owner := "callable_iterator") (n := "__iter__") (by rw [typeLookup_type, builtinLookup_eq_fast]; kernel_rfl) (by decide +kernel) (by decide +kernel) (by decide +kernel)
    (by first | exact .inl (by decide +kernel) | exact .inr (by decide +kernel)) (by rw [isSubtype_type]; kernel_rfl)
section
variable {w : World} {s : Shared} {q I : Addr} {t : Tok} {Q E : Value → Shared → Prop} {A : Around}
theorem entry_ci_iter : entryFor table "callable_iterator.__iter__" = some Builtin.«dict_keyiterator.__iter__» :=
  PySem.entryFor_alias (id' := "dict_keyiterator.__iter__") (by kernel_rfl) (by first | rfl | decide +kernel | (unfold String.splitOn; simp +decide [String.splitOnAux])) (by decide +kernel) (by kernel_rfl)
theorem args_ci_iter (a : Value) : argsOk "callable_iterator.__iter__" ⟨[a], []⟩ := by unfold argsOk; kernel_rfl
theorem ci_iter {news : List (Addr × Obj)} {g : Heap} {L : Addr} {m : PySem.Str → Option Value} (B : Bs w g) (F : Fr g L s.heap m) (N : News g L s.heap news) (hI : (I, ciO q t) ∈ news) (hA : Le A (At 600 4000))
   (hQ : ∀ h' tk, Fr g L h' m → News g L h' news → Q (.ref I) { s with heap := h', toks := tk }) : wpAny (model P0 w) A (pyIter (.ref I)) Q E s := by
  have hT : s.TypeIs (.ref I) "callable_iterator" := ⟨_, (N _ hI).1, rfl⟩
  refine wpAny_pyIter_slot hT slot_ci_iter (wpAny_call_entry slot_ci_iter hT entry_ci_iter ?_ (args_ci_iter _))
  exact wpAny_pure ⟨_, rfl, "callable_iterator", _, hT, slot_ci_next.lookup, hQ s.heap s.toks F N⟩
theorem ci_newW {news : List (Addr × Obj)} {g : Heap} {L l : Addr} {m : PySem.Str → Option Value} (B : Bs w g) (F : Fr g L s.heap m) (N : News g L s.heap news) (hq : (q, methodObj (.ref 283) (.ref l)) ∈ news) (hA : Le A (At 600 4000))
   (hQ : ∀ h' I tk, Fr g L h' m → News g L h' ((I, ciO q t) :: news) → (∀ p ∈ news, p.1 ≠ I) → Q (.ref I) { s with heap := h', toks := tk }) : wpAny (model P0 w) A (call (.builtin "iter") [.ref q, .str "" t]) Q E s :=
  at_le hA (ci_new (B.keeps F.keep).XX (N _ hq).1 fun h' I tk k nI eI => hQ h' I tk (fr_keeps F k) (news_add F (news_keeps N k) nI eI) (ne_new N nI))
end
end
section
theorem kw_C8_1 : True := by
  k_with_none
  k_with "execs cons" => ((with_reducible refine seq_cons fun zQ1 ztk zhQ1 => ?_); try dsimp only)
  trivial
section
variable {w : World} {A : Around} {s : Shared} {env : Env} {target : Expr} {it : Value} {body orelse : List Stmt} {R : Result → Shared → Prop}
theorem forInv {prog : Program} (I : Nat → Shared → Prop)
    (turn : ∀ n s, I n s → wpAny (model prog w) A (pyNext it) (fun r s₁ => match r with
      | none => wpAny (model prog w) A (execs orelse env) (fun f s₃ => R (.ok f) s₃) (fun _ _ => False) s₁
      | some v => wpAny (model prog w) A (assign target env v) (fun _ s₂ => wpAny (model prog w) A (execs body env) (fun f s₃ => match f with
          | .next | .cont => ∃ m, m < n ∧ I m s₃
          | .brk => R (.ok .next) s₃
          | .ret v => R (.ok (.ret v)) s₃) (fun _ _ => False) s₂) (fun _ _ => False) s₁) (fun _ _ => False) s)
    (n : Nat) (h : I n s) (ht : ∀ v, letOwnedTupleGo target it v = pure () := by intro _; rfl) : codeAny (model prog w) A (.forLoop target it body orelse env) R s := by
  refine codeAny_forLoop I (fun n s hI => ?_) n h ht
  refine wpAny_mono (turn n s hI) (fun r s₁ hr => ?_) fun _ _ e => e.elim
  cases r with
  | none => exact wpAny_mono hr (fun _ _ z => z) fun _ _ e => e.elim
  | some v => exact wpAny_mono hr (fun _ s₂ h₂ => wpAny_mono h₂ (fun f s₃ h₃ => by cases f <;> exact h₃) fun _ _ e => e.elim) fun _ _ e => e.elim
end
noncomputable def hdN : List Nat → PySem.Str
  | [] => ""
  | c :: _ => sg1 c
noncomputable def lnN (cs : List Nat) (n : Int) : Int := if (hdN cs == ("\n" : PySem.Str)) = true then n + 1 else n
theorem hdN_map (rest : List (Nat × Tok)) : hdS rest = hdN (rest.map Prod.fst) := by cases rest <;> rfl
theorem lnN_map (rest : List (Nat × Tok)) (n : Int) : lnS rest n = lnN (rest.map Prod.fst) n := by unfold lnS lnN; rw [hdN_map]
/-- is it one of the lexer's whitespace signs -/
noncomputable abbrev inWs (c : Nat) : Bool := Txt.contains "\n\t\r " (sg1 c)
inductive BareR : List Nat → Int → PySem.Str → PySem.Str → List Nat → Int → Prop
  | fin {n : Int} {a : PySem.Str} : BareR [] n a a [] n
  | ws {c : Nat} {r : List Nat} {n : Int} {a : PySem.Str} : inWs c = true → BareR (c :: r) n a a r (lnN (c :: r) n)
  | esc {r : List Nat} {n : Int} {a tok : PySem.Str} {r' : List Nat} {n' : Int} : BareR r.tail (lnN r n) (a ++ hdN r) tok r' n' → BareR (92 :: r) n a tok r' n'
  | sgn {c : Nat} {r : List Nat} {n : Int} {a tok : PySem.Str} {r' : List Nat} {n' : Int} : inWs c = false → c ≠ 92 → BareR r (lnN (c :: r) n) (a ++ sg1 c) tok r' n' → BareR (c :: r) n a tok r' n'
inductive QuotR : List Nat → Int → PySem.Str → PySem.Str → List Nat → Int → Prop
  | close {r : List Nat} {n : Int} {a : PySem.Str} : QuotR (34 :: r) n a a r n
  | esc {r : List Nat} {n : Int} {a tok : PySem.Str} {r' : List Nat} {n' : Int} : QuotR r.tail (lnN r n) (a ++ hdN r) tok r' n' → QuotR (92 :: r) n a tok r' n'
  | sgn {c : Nat} {r : List Nat} {n : Int} {a tok : PySem.Str} {r' : List Nat} {n' : Int} : c ≠ 34 → c ≠ 92 → QuotR r (lnN (c :: r) n) (a ++ sg1 c) tok r' n' → QuotR (c :: r) n a tok r' n'
inductive TokR : List Nat → Int → PySem.Str → List Nat → Int → Prop
  | fin {n : Int} : TokR [] n "" [] n
  | ws {c : Nat} {r : List Nat} {n : Int} {tok : PySem.Str} {r' : List Nat} {n' : Int} : inWs c = true → TokR r (lnN (c :: r) n) tok r' n' → TokR (c :: r) n tok r' n'
  | quot {r : List Nat} {n : Int} {tok : PySem.Str} {r' : List Nat} {n' : Int} : QuotR r n "" tok r' n' → TokR (34 :: r) n tok r' n'
  | esc {r : List Nat} {n : Int} {tok : PySem.Str} {r' : List Nat} {n' : Int} : BareR r.tail (lnN r n) ("" ++ hdN r) tok r' n' → TokR (92 :: r) n tok r' n'
  | bare {c : Nat} {r : List Nat} {n : Int} {tok : PySem.Str} {r' : List Nat} {n' : Int} : inWs c = false → c ≠ 34 → c ≠ 92 → BareR r (lnN (c :: r) n) ("" ++ sg1 c) tok r' n' → TokR (c :: r) n tok r' n'
theorem lnN_10 {c : Nat} {r : List Nat} {n : Int} (h : c ≠ 10) : lnN (c :: r) n = n := by
  unfold lnN
  rw [if_neg]
  intro q
  have e := eq_of_beq q
  exact h (by injection e with e; injection e with e; injection e)
theorem sg1_ne {c d : Nat} (h : c ≠ d) : (sg1 c == (⟨#[d]⟩ : PySem.Str)) = false := by
  rw [beq_eq_false_iff_ne]
  intro e
  exact h (by unfold sg1 at e; injection e with e; injection e with e; injection e)
theorem e_len : ("" : PySem.Str).length = 0 := by decide +kernel
theorem sg1_len (c : Nat) : (sg1 c).length = 1 := rfl
theorem Str_len (a b : PySem.Str) : (a ++ b).length = a.length + b.length := PySem.Str.length_append a b
theorem tail_len (r : List (Nat × Tok)) : r.tail.length ≤ r.length ∧ (hdS r).length + r.tail.length ≤ r.length := by
  cases r with
  | nil => exact ⟨Nat.le_refl _, by decide +kernel⟩
  | cons p r => exact ⟨by simp, by show (sg1 p.1).length + r.length ≤ _; rw [sg1_len]; simp; omega⟩
noncomputable abbrev mm (vch : Option Value) (tok : Value) (I l : Addr) : PySem.Str → Option Value := fun y => if y = "ch" then vch else if y = "token" then some tok else if y = "fiter" then some (.ref I) else if y = "self" then some (.ref l) else none
theorem fr_mm {g h : Heap} {L I l : Addr} {m : PySem.Str → Option Value} {vch : Option Value} {tok : Value} (F : Fr g L h m) (h1 : m "ch" = vch) (h2 : m "token" = some tok) (h3 : m "fiter" = some (.ref I)) (h4 : m "self" = some (.ref l))
    (h5 : ∀ y : PySem.Str, y ≠ "ch" → y ≠ "token" → y ≠ "fiter" → y ≠ "self" → m y = none) : Fr g L h (mm vch tok I l) := by
  have : m = mm vch tok I l := by
    funext y
    unfold mm
    by_cases a : y = "ch"
    · rw [if_pos a, a, h1]
    rw [if_neg a]
    by_cases b : y = "token"
    · rw [if_pos b, b, h2]
    rw [if_neg b]
    by_cases c : y = "fiter"
    · rw [if_pos c, c, h3]
    rw [if_neg c]
    by_cases d : y = "self"
    · rw [if_pos d, d, h4]
    rw [if_neg d, h5 y a b c d]
  exact this ▸ F
theorem fillC8 (w : World) (h : Heap) (X : (Mine.hd.heap_39 w.params).In h) (e : PySem.Challenge.rw_wu0089_01.foot = PySem.Challenge.rw_wu0089_01.foot) : True := by
  revert X e; k_fill; intro _ _; trivial

theorem kw_C8_2 : True := by
  k_with "ktr_enter" => (refine' enter_fn ?q7a ?q7d ?q7e ?q7f ?q7g ?q7h ?q7i ?_ ?q7j ?q7k ?q7b ?q7c; (case q7g => assumption); (case q7a => assumption); (case q7e => k_is); (case q7f => k_is); (case q7d => decide); (case q7h => first | exact BindsTo.of_eq rfl | exact binds_K (Gd.here (by assumption)).X rfl (by k_is) rfl rfl rfl); (case q7j => decide); (case q7i => exact locs rfl); (case q7k => exact rfl); (case q7b => exact rfl); (case q7c => exact rfl); k_whole; rintro zg' zL' zh' zp' zl' zmean' zmg' zmb' zT' zX' zGN zF' zN' zl1 zK1 zhL'; (try dsimp only); (try k_fold))
  k_with "callWith ref" => (k_here; k_dflt (refine' callWith_F ?q30a ?_; (case q30a => exact FnAt.of (by k_asm) (by k_mem)); k_whole))
  k_with "call ref" => (k_here; (with_reducible show wpAny _ _ (call (Value.ref _) _) _ _ _); refine stop ?_)
  k_with "call builtin:iter" => (k_here; (with_reducible show wpAny _ _ (call (Value.builtin _) [Value.ref _, _]) _ _ _); refine stop ?_)
  k_with "exec For Name Name cons nil" => (k_here; (with_reducible show wpAny _ _ (exec (Stmt.For _ _ _ _ _) _) _ _ _); refine stop ?_)
  k_with "inplaceOp Add str str" => k_dflt ((refine SBL.iadd (hsz := ?q33a) ?_); (case q33a => assumption); intro _ _ _)
  k_with "ite" => k_dflt (first | refine ite_pos (by assumption) ?_ | refine ite_neg (ne_true_of_eq_false (by assumption)) ?_)
  trivial
theorem sg1_no {c : Nat} (h : (sg1 c == ("\\" : PySem.Str)) = false) : c ≠ 92 := by
  rintro rfl
  revert h
  decide +kernel
theorem sg1_eq {c : Nat} (h : (sg1 c == ("\\" : PySem.Str)) = true) : c = 92 := Decidable.byContradiction fun q => by
  rw [show (sg1 c == ("\\" : PySem.Str)) = false from sg1_ne q] at h
  cases h
noncomputable def IfStop : Prop := True
theorem stopIf {P : Prop} (_ : IfStop) (h : Stop P) : P := h
inductive MidC (s0 : Shared) (C : LxC) (g : Heap) (L I q : Addr) (ti tu : Tok) (kp j : Nat) (tok : PySem.Str) (r' : List Nat) (n' : Int) : Flow → Shared → Prop
  | mk (rest : List (Nat × Tok)) (n : Int) (v : PySem.Str) (u : Tok) (h : Heap) (tk : Nat) (t : Tok) (k : Nat) : BareR (rest.map Prod.fst) n ("" ++ v) tok r' n' → v.length + rest.length ≤ sizeLine → rest.length + 1 < j → Fr g L h (mm (some (.str v u)) (.str "" tu) I C.l) → News g L h ((I, ciO q ti) :: (q, methodObj (.ref 283) (.ref C.l)) :: lxNews C rest n t k kp) → MidC s0 C g L I q ti tu kp j tok r' n' .next ⟨h, s0.gens, s0.drawn, tk, s0.os⟩
theorem kw_C8_3 : True := by
  k_with "exec If" => (k_here; refine stopIf (by with_reducible assumption) ?_)
  trivial
section
variable {w : World} {s : Shared} {C : LxC} {rest : List (Nat × Tok)} {n : Int} {t : Tok} {k kp : Nat} {Q E : Value → Shared → Prop} {g : Heap} {L : Addr} {m : PySem.Str → Option Value}
theorem tok_end (K : LxK w.params C) (GN : Gnd w s.heap (lxNews C rest n t k kp) g) (hn : ∀ q ∈ lxNews C rest n t k kp, s.heap.get? q.1 = some q.2) {h' : Heap} {rest' : List (Nat × Tok)} {n' : Int} {t' : Tok} {k' : Nat} {L' : Addr} {m' : PySem.Str → Option Value} {a b : Addr × Obj}
    (F : Fr g L' h' m') (N : News g L' h' (a :: b :: lxNews C rest' n' t' k' kp)) : KeepsBut [C.dl, C.sg] s.heap h' ∧ Lx w.params h' C rest' n' := by
  refine ⟨gnd_but GN F.keep fun p hp => ?_, lx_of K N fun p hp => .tail _ (.tail _ hp)⟩
  have z : ∀ p ∈ lxNews C rest' n' t' k' kp, h'.get? p.1 = some p.2 := fun p hp => (N p (.tail _ (.tail _ hp))).1
  simp only [List.mem_cons, List.not_mem_nil, or_false] at hp
  rcases hp with rfl | rfl | rfl | rfl | rfl | rfl | rfl | rfl | rfl
  · exact .inr ⟨hn (C.l, _) (by k_mem), z (C.l, _) (by k_mem)⟩
  · exact .inl (.head _)
  · exact .inr ⟨hn (C.f, _) (by k_mem), z (C.f, _) (by k_mem)⟩
  · exact .inr ⟨hn (C.df, _) (by k_mem), z (C.df, _) (by k_mem)⟩
  · exact .inr ⟨hn (C.lam, _) (by k_mem), z (C.lam, _) (by k_mem)⟩
  · exact .inr ⟨hn (C.c', _) (by k_mem), z (C.c', _) (by k_mem)⟩
  · exact .inr ⟨hn (C.c, _) (by k_mem), z (C.c, _) (by k_mem)⟩
  · exact .inl (.tail _ (.head _))
  · exact .inr ⟨hn (C.pb, _) (by k_mem), z (C.pb, _) (by k_mem)⟩
inductive OutInv (s0 : Shared) (C : LxC) (g : Heap) (L I q : Addr) (ti : Tok) (kp : Nat) (tok : PySem.Str) (r' : List Nat) (n' : Int) (j : Nat) : Shared → Prop
  | st (rest : List (Nat × Tok)) (n : Int) (vch : Option Value) (h : Heap) (tk : Nat) (t : Tok) (k : Nat) (u : Tok) : rest.length < j → rest.length ≤ sizeLine → TokR (rest.map Prod.fst) n tok r' n' → Fr g L h (mm vch (.str "" u) I C.l) → News g L h ((I, ciO q ti) :: (q, methodObj (.ref 283) (.ref C.l)) :: lxNews C rest n t k kp) → OutInv s0 C g L I q ti kp tok r' n' j ⟨h, s0.gens, s0.drawn, tk, s0.os⟩
  | en (vch : Option Value) (h : Heap) (tk : Nat) (t : Tok) (k : Nat) (u : Tok) : r' = [] → Fr g L h (mm vch (.str tok u) I C.l) → News g L h ((I, ciE) :: (q, methodObj (.ref 283) (.ref C.l)) :: lxNews C [] n' t k kp) → OutInv s0 C g L I q ti kp tok r' n' j ⟨h, s0.gens, s0.drawn, tk, s0.os⟩
inductive BareInv (s0 : Shared) (C : LxC) (g : Heap) (L I q : Addr) (ti : Tok) (kp : Nat) (tok : PySem.Str) (r' : List Nat) (n' : Int) (j : Nat) : Shared → Prop
  | mk (rest : List (Nat × Tok)) (n : Int) (vch : Option Value) (acc : PySem.Str) (h : Heap) (tk : Nat) (t : Tok) (k : Nat) (u : Tok) : rest.length < j → acc.length + rest.length ≤ sizeLine → BareR (rest.map Prod.fst) n acc tok r' n' → Fr g L h (mm vch (.str acc u) I C.l) → News g L h ((I, ciO q ti) :: (q, methodObj (.ref 283) (.ref C.l)) :: lxNews C rest n t k kp) → BareInv s0 C g L I q ti kp tok r' n' j ⟨h, s0.gens, s0.drawn, tk, s0.os⟩
inductive QuotInv (s0 : Shared) (C : LxC) (g : Heap) (L I q : Addr) (ti : Tok) (kp : Nat) (tok : PySem.Str) (r' : List Nat) (n' : Int) (j : Nat) : Shared → Prop
  | mk (rest : List (Nat × Tok)) (n : Int) (vch : Option Value) (acc : PySem.Str) (h : Heap) (tk : Nat) (t : Tok) (k : Nat) (u : Tok) : rest.length < j → acc.length + rest.length ≤ sizeLine → QuotR (rest.map Prod.fst) n acc tok r' n' → Fr g L h (mm vch (.str acc u) I C.l) → News g L h ((I, ciO q ti) :: (q, methodObj (.ref 283) (.ref C.l)) :: lxNews C rest n t k kp) → QuotInv s0 C g L I q ti kp tok r' n' j ⟨h, s0.gens, s0.drawn, tk, s0.os⟩
section
variable {A : Around} {env : Env} {target : Expr} {body orelse : List Stmt} {R : Result → Shared → Prop} {I q : Addr} {ti u : Tok} {h : Heap} {tk : Nat} {vch : Option Value} {acc tok : PySem.Str} {r' : List Nat} {n' : Int}
noncomputable def Again (Inv : Nat → Shared → Prop) (n : Nat) (s : Shared) : Prop := ∃ m, m < n ∧ Inv m s
noncomputable abbrev Turn (w : World) (A : Around) (env : Env) (target : Expr) (it : Value) (body orelse : List Stmt) (R : Result → Shared → Prop) (Inv : Nat → Shared → Prop) : Prop :=
  ∀ n s, Inv n s → wpAny (model P0 w) A (pyNext it) (fun r s₁ => match r with
      | none => wpAny (model P0 w) A (execs orelse env) (fun f s₃ => R (.ok f) s₃) (fun _ _ => False) s₁
      | some v => wpAny (model P0 w) A (assign target env v) (fun _ s₂ => wpAny (model P0 w) A (execs body env) (fun f s₃ => match f with
          | .next | .cont => Again Inv n s₃
          | .brk => R (.ok .next) s₃
          | .ret v => R (.ok (.ret v)) s₃) (fun _ _ => False) s₂) (fun _ _ => False) s₁) (fun _ _ => False) s
noncomputable abbrev TurnAt (w : World) (A : Around) (env : Env) (target : Expr) (it : Value) (body orelse : List Stmt) (R : Result → Shared → Prop) (Inv : Nat → Shared → Prop) (n : Nat) (s : Shared) : Prop :=
  wpAny (model P0 w) A (pyNext it) (fun r s₁ => match r with
      | none => wpAny (model P0 w) A (execs orelse env) (fun f s₃ => R (.ok f) s₃) (fun _ _ => False) s₁
      | some v => wpAny (model P0 w) A (assign target env v) (fun _ s₂ => wpAny (model P0 w) A (execs body env) (fun f s₃ => match f with
          | .next | .cont => Again Inv n s₃
          | .brk => R (.ok .next) s₃
          | .ret v => R (.ok (.ret v)) s₃) (fun _ _ => False) s₂) (fun _ _ => False) s₁) (fun _ _ => False) s
theorem forTok (T : TokR (rest.map Prod.fst) n tok r' n') (hz : rest.length ≤ sizeLine) (F : Fr g L h (mm vch (.str "" u) I C.l)) (N : News g L h ((I, ciO q ti) :: (q, methodObj (.ref 283) (.ref C.l)) :: lxNews C rest n t k kp))
    (turn : ∀ j rest n vch h tk t k u, rest.length < j → rest.length ≤ sizeLine → TokR (rest.map Prod.fst) n tok r' n' → Fr g L h (mm vch (.str "" u) I C.l) → News g L h ((I, ciO q ti) :: (q, methodObj (.ref 283) (.ref C.l)) :: lxNews C rest n t k kp) → TurnAt w A env target (.ref I) body orelse R (OutInv s C g L I q ti kp tok r' n') j ⟨h, s.gens, s.drawn, tk, s.os⟩)
    (turn2 : ∀ j vch h tk t k u, r' = [] → Fr g L h (mm vch (.str tok u) I C.l) → News g L h ((I, ciE) :: (q, methodObj (.ref 283) (.ref C.l)) :: lxNews C [] n' t k kp) → TurnAt w A env target (.ref I) body orelse R (OutInv s C g L I q ti kp tok r' n') j ⟨h, s.gens, s.drawn, tk, s.os⟩)
    (ht : ∀ v, letOwnedTupleGo target (.ref I) v = pure () := by intro _; rfl) :
    codeAny (model P0 w) A (.forLoop target (.ref I) body orelse env) R ⟨h, s.gens, s.drawn, tk, s.os⟩ :=
  forInv (OutInv s C g L I q ti kp tok r' n') (fun j s' hI => hI.casesOn (motive := fun s' _ => TurnAt w A env target (.ref I) body orelse R (OutInv s C g L I q ti kp tok r' n') j s') (turn j) (turn2 j)) (rest.length + 1) (.st rest n vch h tk t k u (Nat.lt_succ_self _) hz T F N) ht
theorem forBare (T : BareR (rest.map Prod.fst) n acc tok r' n') (hz : acc.length + rest.length ≤ sizeLine) (F : Fr g L h (mm vch (.str acc u) I C.l)) (N : News g L h ((I, ciO q ti) :: (q, methodObj (.ref 283) (.ref C.l)) :: lxNews C rest n t k kp))
    (turn : ∀ j rest n vch acc h tk t k u, rest.length < j → acc.length + rest.length ≤ sizeLine → BareR (rest.map Prod.fst) n acc tok r' n' → Fr g L h (mm vch (.str acc u) I C.l) → News g L h ((I, ciO q ti) :: (q, methodObj (.ref 283) (.ref C.l)) :: lxNews C rest n t k kp) → TurnAt w A env target (.ref I) body orelse R (BareInv s C g L I q ti kp tok r' n') j ⟨h, s.gens, s.drawn, tk, s.os⟩)
    (ht : ∀ v, letOwnedTupleGo target (.ref I) v = pure () := by intro _; rfl) :
    codeAny (model P0 w) A (.forLoop target (.ref I) body orelse env) R ⟨h, s.gens, s.drawn, tk, s.os⟩ :=
  forInv (BareInv s C g L I q ti kp tok r' n') (fun j s' hI => hI.casesOn (motive := fun s' _ => TurnAt w A env target (.ref I) body orelse R (BareInv s C g L I q ti kp tok r' n') j s') (turn j)) (rest.length + 1) (.mk rest n vch acc h tk t k u (Nat.lt_succ_self _) hz T F N) ht
theorem bare_again {j : Nat} (hj : rest.length + 1 < j) (hz : acc.length + rest.length ≤ sizeLine) (T : BareR (rest.map Prod.fst) n acc tok r' n') (F : Fr g L h (mm vch (.str acc u) I C.l)) (N : News g L h ((I, ciO q ti) :: (q, methodObj (.ref 283) (.ref C.l)) :: lxNews C rest n t k kp)) : Again (BareInv s C g L I q ti kp tok r' n') j ⟨h, s.gens, s.drawn, tk, s.os⟩ :=
  ⟨rest.length + 1, hj, .mk rest n vch acc h tk t k u (Nat.lt_succ_self _) hz T F N⟩
theorem forQuot (T : QuotR (rest.map Prod.fst) n acc tok r' n') (hz : acc.length + rest.length ≤ sizeLine) (F : Fr g L h (mm vch (.str acc u) I C.l)) (N : News g L h ((I, ciO q ti) :: (q, methodObj (.ref 283) (.ref C.l)) :: lxNews C rest n t k kp))
    (turn : ∀ j rest n vch acc h tk t k u, rest.length < j → acc.length + rest.length ≤ sizeLine → QuotR (rest.map Prod.fst) n acc tok r' n' → Fr g L h (mm vch (.str acc u) I C.l) → News g L h ((I, ciO q ti) :: (q, methodObj (.ref 283) (.ref C.l)) :: lxNews C rest n t k kp) → TurnAt w A env target (.ref I) body orelse R (QuotInv s C g L I q ti kp tok r' n') j ⟨h, s.gens, s.drawn, tk, s.os⟩)
    (ht : ∀ v, letOwnedTupleGo target (.ref I) v = pure () := by intro _; rfl) :
    codeAny (model P0 w) A (.forLoop target (.ref I) body orelse env) R ⟨h, s.gens, s.drawn, tk, s.os⟩ :=
  forInv (QuotInv s C g L I q ti kp tok r' n') (fun j s' hI => hI.casesOn (motive := fun s' _ => TurnAt w A env target (.ref I) body orelse R (QuotInv s C g L I q ti kp tok r' n') j s') (turn j)) (rest.length + 1) (.mk rest n vch acc h tk t k u (Nat.lt_succ_self _) hz T F N) ht
theorem quot_again {j : Nat} (hj : rest.length + 1 < j) (hz : acc.length + rest.length ≤ sizeLine) (T : QuotR (rest.map Prod.fst) n acc tok r' n') (F : Fr g L h (mm vch (.str acc u) I C.l)) (N : News g L h ((I, ciO q ti) :: (q, methodObj (.ref 283) (.ref C.l)) :: lxNews C rest n t k kp)) : Again (QuotInv s C g L I q ti kp tok r' n') j ⟨h, s.gens, s.drawn, tk, s.os⟩ :=
  ⟨rest.length + 1, hj, .mk rest n vch acc h tk t k u (Nat.lt_succ_self _) hz T F N⟩
theorem out_again {j : Nat} (hj : rest.length + 1 < j) (hz : rest.length ≤ sizeLine) (T : TokR (rest.map Prod.fst) n tok r' n') (F : Fr g L h (mm vch (.str "" u) I C.l)) (N : News g L h ((I, ciO q ti) :: (q, methodObj (.ref 283) (.ref C.l)) :: lxNews C rest n t k kp)) : Again (OutInv s C g L I q ti kp tok r' n') j ⟨h, s.gens, s.drawn, tk, s.os⟩ :=
  ⟨rest.length + 1, hj, .st rest n vch h tk t k u (Nat.lt_succ_self _) hz T F N⟩
theorem end_again {j : Nat} (hj : 0 < j) (e1 : tok = acc) (e2 : r' = []) (e3 : n' = n) (F : Fr g L h (mm vch (.str acc u) I C.l)) (N : News g L h ((I, ciE) :: (q, methodObj (.ref 283) (.ref C.l)) :: lxNews C [] n t k kp)) : Again (OutInv s C g L I q ti kp tok r' n') j ⟨h, s.gens, s.drawn, tk, s.os⟩ := by
  subst e1 e2 e3
  exact ⟨0, hj, .en vch h tk t k u rfl F N⟩
theorem midC_intro {tu : Tok} {j : Nat} {v : PySem.Str} (T : BareR (rest.map Prod.fst) n ("" ++ v) tok r' n') (hz : v.length + rest.length ≤ sizeLine) (hj : rest.length + 1 < j) (F : Fr g L h (mm (some (.str v u)) (.str "" tu) I C.l)) (N : News g L h ((I, ciO q ti) :: (q, methodObj (.ref 283) (.ref C.l)) :: lxNews C rest n t k kp)) : MidC s C g L I q ti tu kp j tok r' n' .next ⟨h, s.gens, s.drawn, tk, s.os⟩ :=
  .mk rest n v u h tk t k T hz hj F N
theorem tok_mid {tu : Tok} {m : PySem.Str → Option Value} {st : Stmt} {Q1 : Flow → Shared → Prop} {E : Value → Shared → Prop} (s0 : Shared) (j : Nat) (tok : PySem.Str) (r' : List Nat) (n' : Int)
    (_ : Fr g L h m) (_ : News g L h ((I, ciO q ti) :: (q, methodObj (.ref 283) (.ref C.l)) :: lxNews C rest n t k kp)) (_ : m "token" = some (.str "" tu))
    (h1 : wpAny (model P0 w) A (exec st env) (MidC s0 C g L I q ti tu kp j tok r' n') (fun _ _ => False) ⟨h, s0.gens, s0.drawn, tk, s0.os⟩)
    (h2 : ∀ rest n v u h tk t k, BareR (rest.map Prod.fst) n ("" ++ v) tok r' n' → v.length + rest.length ≤ sizeLine → rest.length + 1 < j → Fr g L h (mm (some (.str v u)) (.str "" tu) I C.l) → News g L h ((I, ciO q ti) :: (q, methodObj (.ref 283) (.ref C.l)) :: lxNews C rest n t k kp) → Q1 .next ⟨h, s0.gens, s0.drawn, tk, s0.os⟩) : wpAny (model P0 w) A (exec st env) Q1 E ⟨h, s0.gens, s0.drawn, tk, s0.os⟩ :=
  wpAny_mono h1 (fun _ _ hM => hM.casesOn (motive := fun f s' _ => Q1 f s') h2) fun _ _ e => e.elim
theorem next_T {rest0 : List (Nat × Tok)} {n0 : Int} {t0 : Tok} {k0 : Nat} {m : PySem.Str → Option Value} {Q : Option Value → Shared → Prop} (K : LxK w.params C) (B : Bs w g) (F : Fr g L s.heap m) (N : News g L s.heap ((I, ciO q ti) :: (q, methodObj (.ref 283) (.ref C.l)) :: lxNews C rest n t k kp)) (nI : ∀ p ∈ (q, methodObj (.ref 283) (.ref C.l)) :: lxNews C rest0 n0 t0 k0 kp, p.1 ≠ I) (a3 : @Ne Nat q C.dl) (a4 : @Ne Nat q C.sg) (hz : rest.length ≤ sizeLine) (hA : Le A.in1 (At 530 3300))
    (h1 : ∀ c tc r, rest = (c, tc) :: r → ∀ h' tk u t' k', Fr g L h' m → News g L h' ((I, ciO q ti) :: (q, methodObj (.ref 283) (.ref C.l)) :: lxNews C r (lnN (c :: r.map Prod.fst) n) t' k' kp) → Q (some (.str (sg1 c) u)) { s with heap := h', toks := tk })
    (h0 : rest = [] → ∀ h' tk t' k', Fr g L h' m → News g L h' ((I, ciE) :: (q, methodObj (.ref 283) (.ref C.l)) :: lxNews C [] n t' k' kp) → Q none { s with heap := h', toks := tk }) : wpAny (model P0 w) A (pyNext (.ref I)) Q E s := by
  refine next_W (ex := []) K B F N ?_ ?_ hz hA (fun p r e h' tk u t' k' F' N' => ?_) h0
  · refine mem_all2 ?_ ?_
    · exact ⟨fun e => nI (C.dl, _) (by k_mem) e.symm, fun e => nI (C.sg, _) (by k_mem) e.symm⟩
    · exact ⟨a3, a4⟩
  · refine mem_all10 ?_ ?_ ?_ ?_ ?_ ?_ ?_ ?_ ?_ ?_
    · exact nI (q, _) (by k_mem)
    · exact nI (C.l, _) (by k_mem)
    · exact nI (C.dl, dictOf (lxEs C n0 t0) 4) (by k_mem)
    · exact nI (C.f, _) (by k_mem)
    · exact nI (C.df, _) (by k_mem)
    · exact nI (C.lam, _) (by k_mem)
    · exact nI (C.c', _) (by k_mem)
    · exact nI (C.c, _) (by k_mem)
    · exact nI (C.sg, listO (sgV rest0).toArray k0) (by k_mem)
    · exact nI (C.pb, _) (by k_mem)
  · obtain ⟨c, tc⟩ := p
    rw [e, show lnS ((c, tc) :: r) n = lnN (c :: r.map Prod.fst) n from lnN_map _ _] at N'
    exact h1 c tc r e h' tk u t' k' F' N'
theorem read_T {m : PySem.Str → Option Value} {Q : Value → Shared → Prop} (K : LxK w.params C) (B : Bs w g) (F : Fr g L s.heap m) (N : News g L s.heap ((I, ciO q ti) :: (q, methodObj (.ref 283) (.ref C.l)) :: lxNews C rest n t k kp)) (a1 : @Ne Nat I C.dl) (a2 : @Ne Nat I C.sg) (a3 : @Ne Nat q C.dl) (a4 : @Ne Nat q C.sg) (hz : rest.length ≤ sizeLine) (hA : Le A (At 530 3300))
    (h : ∀ h' tk u t' k', Fr g L h' m → News g L h' ((I, ciO q ti) :: (q, methodObj (.ref 283) (.ref C.l)) :: lxNews C rest.tail (lnN (rest.map Prod.fst) n) t' k' kp) → Q (.str (hdN (rest.map Prod.fst)) u) { s with heap := h', toks := tk }) : wpAny (model P0 w) A (call (.ref 283) [.ref C.l]) Q E s := by
  refine read_W (ex := [(I, _), (_, _)]) K B F N (fun p hp => ?_) hz hA (fun h' tk u t' k' F' N' => ?_)
  · simp only [List.mem_cons, List.not_mem_nil, or_false] at hp
    rcases hp with rfl | rfl
    · exact ⟨a1, a2⟩
    · exact ⟨a3, a4⟩
  · rw [lnN_map] at N'
    rw [hdN_map]
    exact h h' tk u t' k' F' N'
end
theorem sz_esc {Z : Nat} {acc : PySem.Str} {r : List (Nat × Tok)} (h : acc.length + (r.length + 1) ≤ Z) : acc.length + (hdN (r.map Prod.fst)).length ≤ Z ∧ (acc ++ hdN (r.map Prod.fst)).length + r.tail.length ≤ Z := by
  have z := tail_len r
  rw [hdN_map] at z
  rw [Str_len]
  omega
theorem sz_sgn {c Z : Nat} {acc : PySem.Str} {r : List (Nat × Tok)} (h : acc.length + (r.length + 1) ≤ Z) : acc.length + (sg1 c).length ≤ Z ∧ (acc ++ sg1 c).length + r.length ≤ Z := by
  rw [Str_len, sg1_len]
  omega
theorem tl_lt {r : List (Nat × Tok)} {j : Nat} (h : r.length + 1 < j) : r.tail.length + 1 < j := Nat.lt_of_le_of_lt (Nat.succ_le_succ (tail_len r).1) h
theorem QuotR.inv {c : Nat} {rs : List Nat} {n n' : Int} {a tok : PySem.Str} {r' : List Nat} {G : Prop} (T : QuotR (c :: rs) n a tok r' n') (h1 : c = 34 → tok = a → rs = r' → n' = n → G) (h2 : c = 92 → QuotR rs.tail (lnN rs n) (a ++ hdN rs) tok r' n' → G)
    (h3 : c ≠ 34 → c ≠ 92 → QuotR rs (lnN (c :: rs) n) (a ++ sg1 c) tok r' n' → G) : G := by
  cases T with
  | close => exact h1 rfl rfl rfl rfl
  | esc T => exact h2 rfl T
  | sgn a b T => exact h3 a b T
theorem BareR.inv {c : Nat} {rs : List Nat} {n n' : Int} {a tok : PySem.Str} {r' : List Nat} {G : Prop} (T : BareR (c :: rs) n a tok r' n') (h1 : inWs c = true → tok = a → rs = r' → n' = lnN (c :: rs) n → G) (h2 : c = 92 → BareR rs.tail (lnN rs n) (a ++ hdN rs) tok r' n' → G)
    (h3 : inWs c = false → c ≠ 92 → BareR rs (lnN (c :: rs) n) (a ++ sg1 c) tok r' n' → G) : G := by
  cases T with
  | ws a => exact h1 a rfl rfl rfl
  | esc T => exact h2 rfl T
  | sgn a b T => exact h3 a b T
theorem BareR.nil_inv {n n' : Int} {a tok : PySem.Str} {r' : List Nat} (T : BareR [] n a tok r' n') : tok = a ∧ r' = [] ∧ n' = n := by
  cases T; exact ⟨rfl, rfl, rfl⟩
theorem TokR.nil_inv {n n' : Int} {tok : PySem.Str} {r' : List Nat} (T : TokR [] n tok r' n') : tok = "" ∧ r' = [] ∧ n' = n := by
  cases T; exact ⟨rfl, rfl, rfl⟩
theorem TokR.inv {c : Nat} {rs : List Nat} {n n' : Int} {tok : PySem.Str} {r' : List Nat} {G : Prop} (T : TokR (c :: rs) n tok r' n') (h1 : inWs c = true → TokR rs (lnN (c :: rs) n) tok r' n' → G) (h2 : c = 34 → QuotR rs n "" tok r' n' → G)
    (h3 : inWs c = false → c ≠ 34 → (c = 92 → BareR rs.tail (lnN rs n) ("" ++ hdN rs) tok r' n') → (c ≠ 92 → BareR rs (lnN (c :: rs) n) ("" ++ sg1 c) tok r' n') → G) : G := by
  cases T with
  | ws a b => exact h1 a b
  | quot a => exact h2 rfl a
  | esc a => exact h3 (by decide +kernel) (by decide) (fun _ => a) fun h => absurd rfl h
  | bare a b c d => exact h3 a b (fun h => absurd h c) fun _ => d
theorem inWs34 {c : Nat} (e : c = 34) : inWs c = false := by subst e; decide +kernel
theorem inWs92 {c : Nat} (e : c = 92) : inWs c = false := by subst e; decide +kernel
theorem sg34 {c : Nat} (e : c = 34) : (sg1 c == ("\"" : PySem.Str)) = true := by subst e; decide +kernel
theorem sg92q {c : Nat} (e : c = 92) : (sg1 c == ("\"" : PySem.Str)) = false := by subst e; decide +kernel
theorem sg92 {c : Nat} (e : c = 92) : (sg1 c == ("\\" : PySem.Str)) = true := by subst e; decide +kernel
theorem ln34 {c : Nat} {r : List Nat} {n : Int} (e : c = 34) : lnN (c :: r) n = n := lnN_10 (by subst e; decide)
theorem ln92 {c : Nat} {r : List Nat} {n : Int} (e : c = 92) : lnN (c :: r) n = n := lnN_10 (by subst e; decide)
noncomputable abbrev own9 (C : LxC) : List Addr := [C.l, C.dl, C.f, C.df, C.lam, C.c', C.c, C.sg, C.pb]
theorem token_spec {tok : PySem.Str} {r' : List Nat} {n' : Int} (T : TokR (rest.map Prod.fst) n tok r' n') (K : LxK w.params C) (X : Lx w.params s.heap C rest n) (hpb : s.heap.get? C.pb = some (listO #[] kp)) (G : Gd w s.heap (own9 C)) (hz : rest.length ≤ sizeLine)
    (hQ : ∀ h' tk u rest', rest'.map Prod.fst = r' → KeepsBut [C.dl, C.sg] s.heap h' → Lx w.params h' C rest' n' → Q (.str tok u) { s with heap := h', toks := tk }) :
    wpAny (model P0 w) (At 500 3000) (call (.ref 290) [.ref C.l]) Q E s := by
  obtain ⟨⟨_, x1, x2, x3, _, x5, x6, _, x8, _, _, _, _, _, _, _, _⟩, ⟨k, x10⟩, t, x11⟩ := X
  have hn : ∀ q ∈ lxNews C rest n t k kp, s.heap.get? q.1 = some q.2 := by
    refine mem_all9 ?_ ?_ ?_ ?_ ?_ ?_ ?_ ?_ ?_ <;> assumption
  have hn0 := hn
  have hQ2 : ∀ h' tk u rest' v m, tok = v → m = n' → rest'.map Prod.fst = r' → KeepsBut [C.dl, C.sg] s.heap h' → Lx w.params h' C rest' m → Q (.str v u) { s with heap := h', toks := tk } := by
    intro h' tk u rest' v m e1 e2
    subst e1 e2
    exact hQ h' tk u rest'
  have K0 := K
  obtain ⟨hl, rd, cf, cc, o1, o2, o3, o4, o5, o6, o7, o8⟩ := K
  dsimp only [lxNews, lxEs] at hn G
  refine wpAny_call ?_
  k_dflt ktr_enter
  k_steps
  unfold Stop
  rename Gnd w s.heap _ _ => GN
  rename Fr _ _ _ _ => F
  rename News _ _ _ _ => N
  refine ci_newW GN.bs F N (by k_mem) (le_at rfl rfl rfl) (fun h2 I tk2 F2 N2 nI => ?_)
  have nI0 := nI _ (.head _)
  have nI1 := nI (C.l, _) (by k_mem)
  have nI2 := nI (C.dl, _) (by k_mem)
  have nI3 := nI (C.f, _) (by k_mem)
  have nI4 := nI (C.df, _) (by k_mem)
  have nI5 := nI (C.lam, _) (by k_mem)
  have nI6 := nI (C.c', _) (by k_mem)
  have nI7 := nI (C.c, _) (by k_mem)
  have nI8 := nI (C.sg, _) (by k_mem)
  have nI9 := nI (C.pb, _) (by k_mem)
  dsimp only at nI0 nI1 nI2 nI3 nI4 nI5 nI6 nI7 nI8 nI9
  clear F N
  k_steps
  unfold Stop
  refine wpAny_For ?_
  k_steps
  rename Fr _ _ _ _ => F
  rename News _ _ _ _ => N
  refine ci_iter GN.bs F N (by k_mem) (le_at rfl rfl rfl) (fun h3 tk3 F3 N3 => ?_)
  clear F N
  have F4 := fr_mm (vch := none) (tok := .str "" _) F3 rfl rfl rfl rfl (fun y a b c d => by simp [mm, a, b, c, d])
  clear F3
  refine forTok T hz F4 N3 ?_ ?_
  · clear F4 N3 T
    intro j rest1 n1 vch h4 tk4 t4 k4 u4 hj hz1 T1 F4 N4
    refine next_T K0 GN.bs F4 N4 nI (by k_ne) (by k_ne) hz1 (le_at rfl rfl rfl) (fun c tc r er h5 tk5 u5 t5 k5 F5 N5 => ?_) (fun er h5 tk5 t5 k5 F5 N5 => ?_)
    · dsimp only
      refine wpAny_assign_Name ?_
      clear F4 N4
      rw [er] at T1 hj hz1
      clear er
      have hj : r.length + 1 < j := hj
      have hz1 : r.length + 1 ≤ sizeLine := hz1
      have T1 : TokR (c :: r.map Prod.fst) _ _ _ _ := T1
      refine T1.inv (fun hw T2 => ?_) (fun e1 T2 => ?_) (fun hw h34 Te Tb => ?_)
      · clear T1
        k_steps
        show Again _ _ _
        rename Fr _ _ _ _ => F
        rename News _ _ _ _ => N
        exact out_again hj (Nat.le_of_succ_le hz1) T2 (fr_mm F rfl rfl rfl rfl (fun y a b c d => by simp [mm, a, b, c, d])) N
      · rw [ln34 e1] at N5
        have hw := inWs34 e1
        have hq := sg34 e1
        clear T1
        k_steps
        unfold Stop
        refine wpAny_For ?_
        k_steps
        rename Fr _ _ _ _ => F
        rename News _ _ _ _ => N
        refine ci_iter GN.bs F N (by k_mem) (le_at rfl rfl rfl) (fun h6 tk6 F6 N6 => ?_)
        clear F N hq hw
        have F7 := fr_mm F6 rfl rfl rfl rfl (fun y a b c d => by simp [mm, a, b, c, d])
        clear F6
        refine forQuot T2 (by rw [e_len, Nat.zero_add]; exact Nat.le_of_succ_le hz1) F7 N6 ?_
        clear F7 N6 T2 hz1 hj
        intro j rest1 n1 vch acc h4 tk4 t4 k4 u4 hj hz1 T1 F4 N4
        refine next_T K0 GN.bs F4 N4 nI (by k_ne) (by k_ne) (Nat.le_trans (Nat.le_add_left _ _) hz1) (le_at rfl rfl rfl) (fun c tc r er h5 tk5 u5 t5 k5 F5 N5 => ?_) (fun er h5 tk5 t5 k5 F5 N5 => ?_)
        · dsimp only
          refine wpAny_assign_Name ?_
          clear F4 N4
          rw [er] at T1 hj hz1
          clear er
          have hj : r.length + 1 < j := hj
          have hz1 : acc.length + (r.length + 1) ≤ sizeLine := hz1
          have T1 : QuotR (c :: r.map Prod.fst) _ _ _ _ _ := T1
          refine T1.inv (fun e1 e2 e3 e4 => ?_) (fun e1 T2 => ?_) (fun h1 h92 T2 => ?_)
          · rw [ln34 e1] at N5
            have hq := sg34 e1
            clear T1
            k_steps
            rename Fr _ _ _ _ => F
            rename News _ _ _ _ => N
            have Z := tok_end K0 GN hn0 F N
            exact hQ2 _ _ _ r _ _ e2 e4.symm e3 Z.1 Z.2
          · rw [ln92 e1] at N5
            have hw := sg92q e1
            have hb := sg92 e1
            have hsz := sz_esc hz1
            clear T1
            k_steps
            unfold Stop
            rename Fr _ _ _ _ => F
            rename News _ _ _ _ => N
            refine read_T K0 GN.bs F N (by k_ne) (by k_ne) (by k_ne) (by k_ne) (Nat.le_trans (Nat.le_trans (Nat.le_succ _) (Nat.le_add_left _ _)) hz1) (le_at rfl rfl rfl) (fun h6 tk6 u6 t6 k6 F6 N6 => ?_)
            clear F N
            have hsz1 := hsz.1
            k_steps
            show Again _ _ _
            rename Fr _ _ _ _ => F
            rename News _ _ _ _ => N
            exact quot_again (rest := r.tail) (tl_lt hj) hsz.2 (List.map_tail ▸ T2) (fr_mm F rfl rfl rfl rfl (fun y a b c d => by simp [mm, a, b, c, d])) N
          · have hq : (sg1 c == ("\"" : PySem.Str)) = false := sg1_ne h1
            have hb : (sg1 c == ("\\" : PySem.Str)) = false := sg1_ne h92
            have hsz := sz_sgn (c := c) hz1
            have hsz1 := hsz.1
            clear T1
            k_steps
            show Again _ _ _
            rename Fr _ _ _ _ => F
            rename News _ _ _ _ => N
            exact quot_again hj hsz.2 T2 (fr_mm F rfl rfl rfl rfl (fun y a b c d => by simp [mm, a, b, c, d])) N
        · rw [er] at T1
          cases T1
      · have hq : (sg1 c == ("\"" : PySem.Str)) = false := sg1_ne h34
        have isOn : IfStop := trivial
        clear T1
        k_steps
        unfold Stop
        refine wpAny_If ?_
        k_steps
        unfold Stop
        refine wpAny_If ?_
        k_steps
        unfold Stop
        rename Fr _ _ _ _ => F
        rename News _ _ _ _ => N
        refine tok_mid s j tok r' n' F N rfl ?_ ?_
        · clear isOn hQ hQ2
          cases hb : (sg1 c == ("\\" : PySem.Str))
          · k_steps
            rename Fr _ _ _ _ => F
            rename News _ _ _ _ => N
            exact midC_intro (Tb (sg1_no hb)) (by rw [sg1_len, Nat.add_comm]; exact hz1) hj (fr_mm F rfl rfl rfl rfl (fun y a b c d => by simp [mm, a, b, c, d])) N
          · have h92 := sg1_eq hb
            k_steps
            unfold Stop
            rename Fr _ _ _ _ => F
            rename News _ _ _ _ => N
            rw [ln92 h92] at N
            refine read_T K0 GN.bs F N (by k_ne) (by k_ne) (by k_ne) (by k_ne) (Nat.le_of_succ_le hz1) (le_at rfl rfl rfl) (fun h6 tk6 u6 t6 k6 F6 N6 => ?_)
            clear F N
            k_steps
            rename Fr _ _ _ _ => F
            rename News _ _ _ _ => N
            exact midC_intro (rest := r.tail) (List.map_tail ▸ Te h92) (by have z := (tail_len r).2; rw [hdN_map] at z; exact Nat.le_trans z (Nat.le_of_succ_le hz1)) (tl_lt hj) (fr_mm F rfl rfl rfl rfl (fun y a b c d => by simp [mm, a, b, c, d])) N
        · clear isOn F N hw hq h34 Te Tb hz1
          have hjo : 0 < j := Nat.lt_of_le_of_lt (Nat.zero_le _) hj
          clear hj
          intro r n2 v u2 h2 tk2 t2 k2 T2 z1 hj F5 N5
          clear hj
          have hz2 : (("" : PySem.Str) ++ v).length + r.length ≤ sizeLine := by rw [Str_len, e_len, Nat.zero_add]; exact z1
          have hsz : ("" : PySem.Str).length + v.length ≤ sizeLine := by rw [e_len, Nat.zero_add]; exact Nat.le_trans (Nat.le_add_right _ _) z1
          clear z1
          k_steps
          unfold Stop
          refine wpAny_For ?_
          k_steps
          rename Fr _ _ _ _ => F
          rename News _ _ _ _ => N
          refine ci_iter GN.bs F N (by k_mem) (le_at rfl rfl rfl) (fun h6 tk6 F6 N6 => ?_)
          clear F N
          have F7 := fr_mm F6 rfl rfl rfl rfl (fun y a b c d => by simp [mm, a, b, c, d])
          clear F6
          refine forBare T2 hz2 F7 N6 ?_
          clear F7 N6 T2 hz2 hsz
          intro j rest1 n1 vch acc h4 tk4 t4 k4 u4 hj hz1 T1 F4 N4
          refine next_T K0 GN.bs F4 N4 nI (by k_ne) (by k_ne) (Nat.le_trans (Nat.le_add_left _ _) hz1) (le_at rfl rfl rfl) (fun c tc r er h5 tk5 u5 t5 k5 F5 N5 => ?_) (fun er h5 tk5 t5 k5 F5 N5 => ?_)
          · dsimp only
            refine wpAny_assign_Name ?_
            clear F4 N4
            rw [er] at T1 hj hz1
            clear er
            have hj : r.length + 1 < j := hj
            have hz1 : acc.length + (r.length + 1) ≤ sizeLine := hz1
            have T1 : BareR (c :: r.map Prod.fst) _ _ _ _ _ := T1
            refine T1.inv (fun e1 e2 e3 e4 => ?_) (fun e1 T2 => ?_) (fun h1 h92 T2 => ?_)
            · clear T1
              k_steps
              rename Fr _ _ _ _ => F
              rename News _ _ _ _ => N
              have Z := tok_end K0 GN hn0 F N
              exact hQ2 _ _ _ r _ _ e2 e4.symm e3 Z.1 Z.2
            · rw [ln92 e1] at N5
              have hw := inWs92 e1
              have hb := sg92 e1
              have hsz := sz_esc hz1
              clear T1
              k_steps
              unfold Stop
              rename Fr _ _ _ _ => F
              rename News _ _ _ _ => N
              refine read_T K0 GN.bs F N (by k_ne) (by k_ne) (by k_ne) (by k_ne) (Nat.le_trans (Nat.le_trans (Nat.le_succ _) (Nat.le_add_left _ _)) hz1) (le_at rfl rfl rfl) (fun h6 tk6 u6 t6 k6 F6 N6 => ?_)
              clear F N
              have hsz1 := hsz.1
              k_steps
              show Again _ _ _
              rename Fr _ _ _ _ => F
              rename News _ _ _ _ => N
              exact bare_again (rest := r.tail) (tl_lt hj) hsz.2 (List.map_tail ▸ T2) (fr_mm F rfl rfl rfl rfl (fun y a b c d => by simp [mm, a, b, c, d])) N
            · have hb : (sg1 c == ("\\" : PySem.Str)) = false := sg1_ne h92
              have hsz := sz_sgn (c := c) hz1
              have hsz1 := hsz.1
              clear T1
              k_steps
              show Again _ _ _
              rename Fr _ _ _ _ => F
              rename News _ _ _ _ => N
              exact bare_again hj hsz.2 T2 (fr_mm F rfl rfl rfl rfl (fun y a b c d => by simp [mm, a, b, c, d])) N
          · rw [er] at T1
            have e := BareR.nil_inv T1
            clear F4 N4 T1
            dsimp only
            k_steps
            show Again _ _ _
            rename Fr _ _ _ _ => F
            rename News _ _ _ _ => N
            exact end_again hjo e.1 e.2.1 e.2.2 (fr_mm F rfl rfl rfl rfl (fun y a b c d => by simp [mm, a, b, c, d])) N
    · rw [er] at T1
      have e := TokR.nil_inv T1
      clear F4 N4 T1
      dsimp only
      k_steps
      rename Fr _ _ _ _ => F
      rename News _ _ _ _ => N
      have Z := tok_end K0 GN hn0 F N
      exact hQ2 _ _ _ [] _ _ e.1 e.2.2.symm e.2.1.symm Z.1 Z.2
  · clear F4 N3 T
    intro j vch h4 tk4 t4 k4 u4 hr F4 N4
    refine ci_ended rfl (N4 _ (.head _)).1 (fun h5 tk5 k5 => ?_)
    have F5 := fr_keeps F4 k5
    have N5 := news_keeps N4 k5
    clear F4 N4
    dsimp only
    k_steps
    rename Fr _ _ _ _ => F
    rename News _ _ _ _ => N
    have Z := tok_end K0 GN hn0 F N
    exact hQ _ _ _ [] hr.symm Z.1 Z.2
end
end
section
local macro_rules | `(tactic| k_lt $h:ident) => `(tactic| (replace $h := allLt_of $h; simp only [AllLt, and_true] at $h:ident))
theorem kw_C9_1 : True := by
  k_with_none
  k_with "execs cons" => ((with_reducible refine seq_cons fun zQ1 ztk zhQ1 => ?_); try dsimp only)
  trivial
theorem fillC9 (w : World) (h : Heap) (X : (Mine.hd.heap_39 w.params).In h) (e : PySem.Challenge.rw_wu0089_01.foot = PySem.Challenge.rw_wu0089_01.foot) : True := by
  revert X e; k_fill; intro _ _; trivial

theorem kw_C9_2 : True := by
  k_with "ktr_enter" => (refine' enter_fn ?q36a ?q36d ?q36e ?q36f ?q36g ?q36h ?q36i ?_ ?q36j ?q36k ?q36b ?q36c; (case q36g => assumption); (case q36a => assumption); (case q36e => k_is); (case q36f => k_is); (case q36d => decide); (case q36h => first | exact BindsTo.of_eq rfl | exact binds_K (Gd.here (by assumption)).X rfl (by k_is) rfl rfl rfl); (case q36j => decide); (case q36i => exact locs rfl); (case q36k => exact rfl); (case q36b => exact rfl); (case q36c => exact rfl); k_whole; rintro zg' zL' zh' zp' zl' zmean' zmg' zmb' zT' zX' zGN zF' zN' zl1 zK1 zhL'; k_lt zl1; (try dsimp only); (try k_fold))
  trivial
section
variable {w : World} {s : Shared} {x dx : Addr} {fp : Value} {Q E : Value → Shared → Prop}
/-- what a new lexer's dict says -/
noncomputable def LexE (e : List DictEntry) (fp : Value) (pb : Addr) : Prop := ∃ h1 h2 h3 h4 k1 k2 k3 k4 t t3, e = [⟨h1, .str "lineno" k1, .int 1 t⟩, ⟨h2, .str "instream" k2, fp⟩, ⟨h3, .str "whitespace" k3, .str "\n\t\r " t3⟩, ⟨h4, .str "pushback" k4, .ref pb⟩]
theorem lexinit_spec (G : Gd w s.heap [x, dx]) (hx : s.heap.get? x = some (instObj 300 dx)) (hdx : s.heap.get? dx = some (dictOf [] 0)) (o1 : @LT.lt Nat _ dx x)
    (hQ : ∀ h' tk pb e, KeepsBut [dx] s.heap h' → h'.get? dx = some (dictOf e 4) → LexE e fp pb → h'.get? pb = some (listO #[] 0) → s.heap.get? pb = none → @LT.lt Nat _ x pb → Q .none { s with heap := h', toks := tk }) :
    codeAny (model P0 w) (At 520 3200) (.call (.ref 276) ⟨[.ref x, fp], []⟩) (fun r s' => match r with | .ok (.ret v) => Q v s' | .ok _ => False | .error e => E e s') s := by
  have hn := mem2 hx hdx
  k_dflt ktr_enter
  k_steps
  rename Gnd w s.heap _ _ => GN
  rename Fr _ _ _ _ => F
  rename News _ _ _ _ => N
  have ep := (N (_, listO #[] 0) (by k_mem))
  have e1 := (N (dx, _) (by k_mem)).1
  have e0 := (N (x, _) (by k_mem)).1
  refine hQ _ _ _ _ (gnd_but (S := [dx]) GN F.keep ?_) e1 ⟨_, _, _, _, _, _, _, _, _, _, rfl⟩ ep.1 (GN.fresh _ ep.2.2 ?_) (by omega)
  · refine mem_all2 ?_ ?_
    · exact .inr ⟨hx, e0⟩
    · exact .inl (.head _)
  · simp only [List.map_cons, List.map_nil, List.mem_cons, List.not_mem_nil, or_false]; rintro (q | q) <;> exact absurd q (by k_ne)
end
end
section
local macro_rules | `(tactic| k_lt $h:ident) => `(tactic| (replace $h := allLt_of $h; simp only [AllLt, and_true] at $h:ident))
theorem kw_C10_1 : True := by
  k_with_none
  k_with "execs cons" => ((with_reducible refine seq_cons fun zQ1 ztk zhQ1 => ?_); try dsimp only)
  trivial
theorem fillC10 (w : World) (h : Heap) (X : (Mine.hd.heap_39 w.params).In h) (e : PySem.Challenge.rw_wu0089_01.foot = PySem.Challenge.rw_wu0089_01.foot) : True := by
  revert X e; k_fill; intro _ _; trivial

theorem kw_C10_2 : True := by
  k_with "ktr_enter" => (refine' enter_fn ?q36a ?q36d ?q36e ?q36f ?q36g ?q36h ?q36i ?_ ?q36j ?q36k ?q36b ?q36c; (case q36g => assumption); (case q36a => assumption); (case q36e => k_is); (case q36f => k_is); (case q36d => decide); (case q36h => first | exact BindsTo.of_eq rfl | exact binds_K (Gd.here (by assumption)).X rfl (by k_is) rfl rfl rfl); (case q36j => decide); (case q36i => exact locs rfl); (case q36k => exact rfl); (case q36b => exact rfl); (case q36c => exact rfl); k_whole; rintro zg' zL' zh' zp' zl' zmean' zmg' zmb' zT' zX' zGN zF' zN' zl1 zK1 zhL'; k_lt zl1; (try dsimp only); (try k_fold))
  k_with "call ref" => (k_here; (with_reducible show wpAny _ _ (call (Value.ref _) _) _ _ _); refine stop ?_)
  k_with "call type:list" => (k_here; (with_reducible show wpAny _ _ (call (Value.type _) [Value.str _ _]) _ _ _); refine stop ?_)
  trivial
section
variable {w : World} {s : Shared} {text : PySem.Str} {tt : Tok} {Q E : Value → Shared → Prop}
theorem lexnew_W {A : Around} {g : Heap} {L : Addr} {m : PySem.Str → Option Value} {news : List (Addr × Obj)} {fp : Value} (B : Bs w g) (F : Fr g L s.heap m) (N : News g L s.heap news) (hA : Le (A.under (.builtin "type.__call__" ⟨[.ref 300, fp], []⟩)) (At 520 3200))
    (h : ∀ x dx pb e h' tk, Fr g L h' m → News g L h' ((pb, listO #[] 0) :: (x, instObj 300 dx) :: (dx, dictOf e 4) :: news) → LexE e fp pb → (∀ p ∈ news, p.1 < dx) → @LT.lt Nat _ dx x → @LT.lt Nat _ x pb → Q (.ref x) { s with heap := h', toks := tk }) :
    wpAny (model P0 w) A (call (.ref 300) [fp]) Q E s := by
  have X := B.X
  refine call_cls (C := 300) (fI := 276) F X N (by k_is) (by k_is) (by k_is) (fun x dx h1 F1 N1 l1 lt => ?_)
  refine at_le_code hA (codeAny_mono (lexinit_spec (s := { s with heap := h1 }) (Q := fun v s' => v = .none ∧ Q (.ref x) s') (E := E) (gdN B F1 N1 (all2 ⟨_, .head _⟩ ⟨_, .tail _ (.head _)⟩)) (N1 _ (.head _)).1 (N1 _ (.tail _ (.head _))).1 lt (fun h' tk pb e k e1 le ep np lx => ⟨rfl, ?_⟩)) (fun r s' z => ?_))
  · have F2 := fr_but F1 N1 (.tail _ (.head _)) k
    refine h x dx pb e h' tk F2 (news_add F1 (news_of N1 fun p hp => ?_) np ep) le l1 lt lx
    rcases List.mem_cons.mp hp with rfl | hp
    · exact ⟨k _ _ (fun q => Nat.ne_of_gt lt (List.mem_singleton.mp q)) (N1 _ (.head _)).1, _, .head _⟩
    · rcases List.mem_cons.mp hp with rfl | hp
      · exact ⟨e1, _, .tail _ (.head _)⟩
      · exact ⟨k _ _ (fun q => Nat.ne_of_lt (l1 p hp) (List.mem_singleton.mp q)) (N1 p (.tail _ (.tail _ hp))).1, p.2, .tail _ (.tail _ hp)⟩
  · rcases r with e | (_ | _ | _ | v)
    · exact z
    · exact z.elim
    · exact z.elim
    · exact z.elim
    · exact z
theorem all_one {p : Addr × Obj → Prop} {q : Addr × Obj} (h : p q) : ∀ x ∈ [q], p x := fun x hx => by rw [List.mem_singleton.mp hx]; exact h
theorem sg_rest : ∀ {items : List Value} {cs : List Nat}, items.length = cs.length → (∀ (k : Nat) (c : Nat), cs[k]? = some c → ∃ t : Tok, items[k]? = some (.str ⟨#[c]⟩ t)) → ∃ rest : List (Nat × Tok), rest.map Prod.fst = cs ∧ items = sgV rest
  | [], [], _, _ => ⟨[], rfl, rfl⟩
  | v :: r, c :: cs, hl, h => by
    obtain ⟨t, ht⟩ := h 0 c rfl
    obtain ⟨rest, e1, e2⟩ := sg_rest (items := r) (cs := cs) (by simpa using hl) (fun k c hc => h (k + 1) c (by simpa using hc))
    have : v = .str ⟨#[c]⟩ t := by simpa using ht
    exact ⟨(c, t) :: rest, by simp [e1], by rw [this, e2]; rfl⟩
theorem Sg.rest {items : Array Value} {cs : List Nat} (S : Sg items cs) : ∃ rest : List (Nat × Tok), rest.map Prod.fst = cs ∧ items = (sgV rest).toArray := by
  obtain ⟨rest, e1, e2⟩ := sg_rest (items := items.toList) (cs := cs) (by simpa using S.size) (fun k c hc => by simpa using S.at_ k c hc)
  exact ⟨rest, e1, by rw [← e2]⟩
theorem lexer_fin {P : Params} {g h : Heap} {L pb x dx lam c' pb3 f df sg c : Addr} {h1 h2 h3 h4 : Int} {k1 k2 k3 k4 t t3 : Tok} {qn : PySem.Str} {pa : Arguments} {lb : Expr} {ls : Scope} {pm ctv : Value} {oC oc o6 o3 : Obj} {eF : List DictEntry} {nF n : Nat} {items : Array Value} {cs : List Nat} {vs : Array Value} {tq : Tok}
    (N : News g L h [(pb, listO #[]), (x, instObj 300 dx), (dx, dictOf [⟨h1, .str "lineno" k1, .int 1 t⟩, ⟨h2, .str "instream" k2, .ref f⟩, ⟨h3, .str "whitespace" k3, .str "\n\t\r " t3⟩, ⟨h4, .str "pushback" k4, .ref pb⟩] 4), (lam, kla_obj "<lambda>" qn pa lb ls [("signs", c)] pm c' ctv), (c', oC), (pb3, o3), (f, instObj 300 df), (df, dictOf eF nF), (sg, listO items n), (c, oc), (306, o6)])
    (hl : lamIs P pa lb ls) (hr : getL "read" eF = some (some (.ref lam))) (hC1 : oC.data = .fields vs) (hC2 : vs[1]? = some (.str qn tq)) (hc : oc.data = .cell (some (.ref sg))) (S : Sg items cs)
    (o1 : @LT.lt Nat _ c sg) (o2 : @LT.lt Nat _ sg df) (o3 : @LT.lt Nat _ df f) (o4 : @LT.lt Nat _ f c') (o5 : @LT.lt Nat _ c' lam) (o6 : @LT.lt Nat _ lam dx) (o7 : @LT.lt Nat _ dx x) (o8 : @LT.lt Nat _ x pb) :
    ∃ C rest, C.l = x ∧ C.c = c ∧ rest.map Prod.fst = cs ∧ LxK P C ∧ Lx P h C rest 1 ∧ h.get? C.pb = some (listO #[] 0) ∧ (∀ a ∈ own9 C, g.get? a = none) ∧ (∀ a ∈ own9 C, a ∈ [pb, x, dx, lam, c', pb3, f, df, sg, c]) := by
  obtain ⟨rest, e1, rfl⟩ := S.rest
  have z := fun (p : Addr × Obj) hp => (N p hp)
  refine ⟨⟨x, dx, f, df, lam, c', c, sg, pb, h1, h2, h3, h4, k1, k2, k3, k4, t3, eF, nF, pa, lb, ls, qn, pm, ctv, oC, oc⟩, rest, rfl, rfl, e1, ⟨hl, hr, ⟨vs, tq, hC1, hC2⟩, hc, o1, o2, o3, o4, o5, o6, o7, o8⟩,
    ⟨⟨hl, (z (x, _) (by k_mem)).1, (z (f, _) (by k_mem)).1, (z (df, _) (by k_mem)).1, hr, (z (lam, _) (by k_mem)).1, (z (c', _) (by k_mem)).1, ⟨vs, tq, hC1, hC2⟩, (z (c, _) (by k_mem)).1, hc, o1, o2, o3, o4, o5, o6, o7⟩, ⟨n, (z (sg, _) (by k_mem)).1⟩, t, (z (dx, _) (by k_mem)).1⟩, (z (pb, _) (by k_mem)).1, fun a ha => ?_, fun a ha => ?_⟩
  · simp only [List.mem_cons, List.not_mem_nil, or_false] at ha
    rcases ha with rfl | rfl | rfl | rfl | rfl | rfl | rfl | rfl | rfl <;> exact (z (_, _) (by k_mem)).2.2
  · simp only [List.mem_cons, List.not_mem_nil, or_false] at ha ⊢
    rcases ha with rfl | rfl | rfl | rfl | rfl | rfl | rfl | rfl | rfl <;> simp
theorem lexer_spec (G : Gd w s.heap [306]) (h306 : s.heap.get? 306 = some (tabObj #[])) (hz : text.cps.size ≤ sizeLine)
    (hQ : ∀ h' tk C rest, rest.map Prod.fst = text.cps.toList → KeepsBut [306] s.heap h' → (∃ ps, h'.get? 306 = some (tabObj ps)) → LxK w.params C → @LE.le Nat _ 343 C.c → Lx w.params h' C rest 1 → h'.get? C.pb = some (listO #[] 0) → (∀ a ∈ own9 C, s.heap.get? a = none) → Q (.ref C.l) { s with heap := h', toks := tk }) :
    wpAny (model P0 w) (At 500 3000) (call (.ref 311) [.str text tt]) Q E s := by
  have hn : ∀ q ∈ [((306 : Addr), tabObj #[])], s.heap.get? q.1 = some q.2 := by
    intro q hq; simp only [List.mem_cons, List.not_mem_nil, or_false] at hq; rcases hq with rfl; assumption
  refine wpAny_call ?_
  refine enter_cells (cs := fun L => [("signs", L + 1)]) (binds := [("text", .str text tt)]) (news := [((306 : Addr), tabObj #[])]) (fun L => rfl) G (by decide) (by k_is) (by k_is) hn (BindsTo.of_eq rfl) rfl (by decide +kernel) ?_ rfl rfl rfl
  rintro g L h1 tk cells p loose mean mg mb T X GN F N Y l1 lc K1 hL
  k_cells Y
  k_lt l1
  have hC : CodeHd g 310 306 := codeHd_of_K X (by kernel_rfl)
  (try simp only [List.cons_append, List.nil_append] at N)
  (try dsimp only)
  k_steps
  unfold Stop
  rename Fr _ _ _ _ => F
  rename News _ _ _ _ => N
  refine listStr_N rfl F N hz (fun l h2 tk2 items n2 F2 N2 l2 ltl S2 => ?_)
  k_lt l2
  clear F N
  k_steps
  unfold Stop
  rename Fr _ _ _ _ => F
  rename News _ _ _ _ => N
  refine lexnew_W GN.bs F N (le_at rfl rfl rfl) (fun x3 dx3 pb3 e3 h3 tk3 F3 N3 le3 l3 lt3 lp3 => ?_)
  k_lt l3
  clear F N
  obtain ⟨a1, a2, a3, a4, b1, b2, b3, b4, t3, tw3, rfl⟩ := le3
  k_steps
  unfold Stop
  rename Fr _ _ _ _ => F
  rename News _ _ _ _ => N
  refine lexnew_W GN.bs F N (le_at rfl rfl rfl) (fun x4 dx4 pb4 e4 h4 tk4 F4 N4 le4 l4 lt4 lp4 => ?_)
  k_lt l4
  clear F N
  obtain ⟨a5, a6, a7, a8, b5, b6, b7, b8, t4, tw4, rfl⟩ := le4
  k_steps
  rename Fr _ _ _ _ => F
  rename News _ _ _ _ => N
  have h343 := Nat.lt_of_lt_of_le (Heap.lt_size (X 342 _ rfl)) F.above
  obtain ⟨C, rest, eC, ec, e1, KC, XC, pbC, nC, mC⟩ := lexer_fin (P := w.params) N rfl rfl (by assumption) (by assumption) (by assumption) S2 (by omega) (by omega) (by omega) (by omega) (by omega) (by omega) (by omega) (by omega)
  rw [← eC]
  refine hQ _ _ C rest e1 (gnd_but GN F.keep (all_one ?_)) ⟨_, (N ((306 : Addr), tabObj _) (by k_mem)).1⟩ KC (by rw [ec]; exact Nat.le_succ_of_le h343) XC pbC (fun a ha => GN.fresh a (nC a ha) fun q => ?_)
  · exact .inl (.head _)
  · have e := List.mem_singleton.mp q
    have m := mC a ha
    rw [e] at m
    simp only [List.mem_cons, List.not_mem_nil, or_false] at m
    rcases m with m | m | m | m | m | m | m | m | m | m <;> exact absurd m (by k_ne)
end
end
section
local macro_rules | `(tactic| k_lt $h:ident) => `(tactic| (replace $h := allLt_of $h; simp only [AllLt, and_true] at $h:ident))
theorem kw_B20_1 : True := by
  k_with_none
  k_with "execs cons" => ((with_reducible refine seq_cons fun zQ1 ztk zhQ1 => ?_); try dsimp only)
  trivial
theorem fillB20 (w : World) (h : Heap) (X : (Mine.hd.heap_39 w.params).In h) (e : PySem.Challenge.rw_wu0089_01.foot = PySem.Challenge.rw_wu0089_01.foot) : True := by
  revert X e; k_fill; intro _ _; trivial

theorem kw_B20_2 : True := by
  k_with "ktr_enter" => (refine' enter_fn ?q36a ?q36d ?q36e ?q36f ?q36g ?q36h ?q36i ?_ ?q36j ?q36k ?q36b ?q36c; (case q36g => assumption); (case q36a => assumption); (case q36e => k_is); (case q36f => k_is); (case q36d => decide); (case q36h => first | exact BindsTo.of_eq rfl | exact binds_K (Gd.here (by assumption)).X rfl (by k_is) rfl rfl rfl); (case q36j => decide); (case q36i => exact locs rfl); (case q36k => exact rfl); (case q36b => exact rfl); (case q36c => exact rfl); k_whole; rintro zg' zL' zh' zp' zl' zmean' zmg' zmb' zT' zX' zGN zF' zN' zl1 zK1 zhL'; k_lt zl1; (try dsimp only); (try k_fold))
  trivial
section
variable {w : World} {s : Shared} {p dp : Addr} {wd : Int} {t1 t2 t3 t4 : Tok} {Q E : Value → Shared → Prop}
theorem kw_B20_3 : True := by
  k_with "call ref" => (k_here; (with_reducible show wpAny _ _ (call (Value.ref _) _) _ _ _); refine stop ?_)
  trivial
theorem fm_init (G : Gd w s.heap [p, dp]) (hp : s.heap.get? p = some (instObj 116 dp)) (hdp : s.heap.get? dp = some (dictOf [] 0)) (o1 : @LT.lt Nat _ dp p)
    (hQ : ∀ h' tk l x dx e hs tk0 t, KeepsBut [dp] s.heap h' → h'.get? dp = some (dictOf e 6) → FmE e wd l x → h'.get? l = some (listO #[] 0) → h'.get? x = some (accO dx #[] 0) → h'.get? dx = some (dictOf (es1 hs tk0 t) 1) → s.heap.get? l = none → s.heap.get? x = none → s.heap.get? dx = none → @LT.lt Nat _ p l → @LT.lt Nat _ l dx → @LT.lt Nat _ dx x → Q .none { s with heap := h', toks := tk }) :
    codeAny (model P0 w) (At 490 2900) (.call (.ref 57) ⟨[.ref p, .int 0 t1, .int wd t2, .str " " t3, .str " " t4], []⟩) (fun r s' => match r with | .ok (.ret v) => Q v s' | .ok _ => False | .error e => E e s') s := by
  have hn := mem2 hp hdp
  k_dflt ktr_enter
  k_steps
  unfold Stop
  rename Gnd w s.heap _ _ => GN
  rename Fr _ _ _ _ => F
  rename News _ _ _ _ => N
  refine at_le (le_at rfl rfl rfl) (new1_spec (GN.bs.keeps F.keep) (fun h2 x dx tk2 hs tk0 t k2 ex ed nx nd lt le => ?_))
  have sl := Nat.lt_of_lt_of_le (Heap.lt_size (N (_, listO #[] 0) (by k_mem)).1) le
  have F2 := fr_keeps F k2
  have N2 := news_add F (news_add F (news_keeps N k2) nd ed) nx ex
  have l2 := allNe_of (ne_new N nx)
  have l3 := allNe_of (ne_new N nd)
  simp only [AllNe, and_true] at l2 l3
  have fx := GN.fresh x (by
    cases q : Heap.get? _ x with
    | none => rfl
    | some o => (have := F.keep _ _ q; rw [nx] at this; cases this)) (by simp only [List.map_cons, List.map_nil, List.mem_cons, List.not_mem_nil, or_false]; rintro (q | q) <;> exact absurd q (by k_ne))
  have fd := GN.fresh dx (by
    cases q : Heap.get? _ dx with
    | none => rfl
    | some o => (have := F.keep _ _ q; rw [nd] at this; cases this)) (by simp only [List.map_cons, List.map_nil, List.mem_cons, List.not_mem_nil, or_false]; rintro (q | q) <;> exact absurd q (by k_ne))
  clear F N
  k_steps
  rename Fr _ _ _ _ => F
  rename News _ _ _ _ => N
  have nl := (N (_, listO #[] 0) (by k_mem))
  have ep := (N (p, _) (by k_mem)).1
  have edp := (N (dp, _) (by k_mem)).1
  have ex2 := (N (x, accO dx #[] 0) (by k_mem)).1
  have ed2 := (N (dx, dictOf (es1 hs tk0 t) 1) (by k_mem)).1
  refine hQ _ _ _ x dx _ hs tk0 t (gnd_but (S := [dp]) GN F.keep ?_) edp ⟨⟨_, rfl⟩, ⟨_, rfl⟩, rfl, rfl, rfl, rfl, rfl⟩ nl.1 ex2 ed2 (GN.fresh _ nl.2.2 ?_) fx fd (by omega) sl lt
  · refine mem_all2 ?_ ?_
    · exact .inr ⟨hp, ep⟩
    · exact .inl (.head _)
  · simp only [List.map_cons, List.map_nil, List.mem_cons, List.not_mem_nil, or_false]; rintro (q | q) <;> exact absurd q (by k_ne)
theorem fmnew_W {A : Around} {g : Heap} {L : Addr} {m : PySem.Str → Option Value} {news : List (Addr × Obj)} (B : Bs w g) (F : Fr g L s.heap m) (N : News g L s.heap news) (hA : Le (A.under (.builtin "type.__call__" ⟨[.ref 116, .int 0 t1, .int wd t2, .str " " t3, .str " " t4], []⟩)) (At 490 2900))
    (h : ∀ p dp l x dx e hs tk0 t h' tk, Fr g L h' m → News g L h' ((x, accO dx #[] 0) :: (dx, dictOf (es1 hs tk0 t) 1) :: (l, listO #[] 0) :: (p, instObj 116 dp) :: (dp, dictOf e 6) :: news) → FmE e wd l x → (∀ p ∈ news, p.1 < dp) → @LT.lt Nat _ dp p → @LT.lt Nat _ p l → @LT.lt Nat _ l dx → @LT.lt Nat _ dx x → Q (.ref p) { s with heap := h', toks := tk }) :
    wpAny (model P0 w) A (call (.ref 116) [.int 0 t1, .int wd t2, .str " " t3, .str " " t4]) Q E s := by
  have X := B.X
  refine call_cls (C := 116) (fI := 57) F X N (by k_is) (by k_is) (by k_is) (fun p dp h1 F1 N1 l1 lt => ?_)
  refine at_le_code hA (codeAny_mono (fm_init (s := { s with heap := h1 }) (Q := fun v s' => v = .none ∧ Q (.ref p) s') (E := E) (gdN B F1 N1 (all2 ⟨_, .head _⟩ ⟨_, .tail _ (.head _)⟩)) (N1 _ (.head _)).1 (N1 _ (.tail _ (.head _))).1 lt (fun h' tk l x dx e hs tk0 t k e1 fe el ex ed nl nx nd o2 o3 o4 => ⟨rfl, ?_⟩)) (fun r s' z => ?_))
  · have F2 := fr_but F1 N1 (.tail _ (.head _)) k
    refine h p dp l x dx e hs tk0 t h' tk F2 (news_add F1 (news_add F1 (news_add F1 (news_of N1 fun q hq => ?_) nl el) nd ed) nx ex) fe l1 lt o2 o3 o4
    rcases List.mem_cons.mp hq with rfl | hq
    · exact ⟨k _ _ (fun q => Nat.ne_of_gt lt (List.mem_singleton.mp q)) (N1 _ (.head _)).1, _, .head _⟩
    · rcases List.mem_cons.mp hq with rfl | hq
      · exact ⟨e1, _, .tail _ (.head _)⟩
      · exact ⟨k _ _ (fun r => Nat.ne_of_lt (l1 q hq) (List.mem_singleton.mp r)) (N1 q (.tail _ (.tail _ hq))).1, q.2, .tail _ (.tail _ hq)⟩
  · rcases r with e | (_ | _ | _ | v)
    · exact z
    · exact z.elim
    · exact z.elim
    · exact z.elim
    · exact z
end
end
section
theorem kw_D1_1 : True := by
  k_with_none
  k_with "execs cons" => ((with_reducible refine seq_cons fun zQ1 ztk zhQ1 => ?_); try dsimp only)
  trivial
section
variable {w : World} {s : Shared} {A : Around} {x y z : PySem.Str} {t u : Tok} {i j : Int} {g : Heap} {L : Addr} {m : PySem.Str → Option Value} {news : List (Addr × Obj)} {Q E : Value → Shared → Prop}
theorem find_is (e : (Txt.find x z : Int) = i) (h : Q (.int i s.toks) { s with toks := s.toks + 1 }) : wpAny (model P0 w) A (call (.builtin "str.find") [.str x t, .str z u]) Q E s := SC.find (by rw [e]; exact h)
theorem find3_is {v : Tok} (e : (Txt.find3 x z j : Int) = i) (h : Q (.int i s.toks) { s with toks := s.toks + 1 }) : wpAny (model P0 w) A (call (.builtin "str.find") [.str x t, .str z u, .int j v]) Q E s := SC.find3 (by rw [e]; exact h)
theorem split5 {p0 p1 p2 p3 p4 : PySem.Str} (F : Fr g L s.heap m) (N : News g L s.heap news) (hy : (y.length == 0) = false) (e : Txt.split x y = [p0, p1, p2, p3, p4]) (hz : x.length + 2 ≤ sizeLine)
    (h : ∀ D h' k t0 t1 t2 t3 t4, Fr g L h' m → News g L h' ((D, listO #[.str p0 t0, .str p1 t1, .str p2 t2, .str p3 t3, .str p4 t4]) :: news) → (∀ p ∈ news, p.1 < D) → Q (.ref D) { s with heap := h', toks := k }) :
    wpAny (model P0 w) A (call (.builtin "str.split") [.str x t, .str y u]) Q E s := by
  refine KSpl.split1 F N hy (fun D l h' k el _ F' N' l1 => ?_) hz
  rw [e] at el
  obtain ⟨t0, l5, e0, el0⟩ := KSpl.cons_of el
  subst e0
  obtain ⟨t1, l6, e1, el1⟩ := KSpl.cons_of el0
  subst e1
  obtain ⟨t2, l7, e2, el2⟩ := KSpl.cons_of el1
  subst e2
  obtain ⟨t3, l8, e3, el3⟩ := KSpl.cons_of el2
  subst e3
  obtain ⟨t4, l9, e4, el4⟩ := KSpl.cons_of el3
  subst e4
  have := KSpl.nil_of el4
  subst this
  exact h D h' k t0 t1 t2 t3 t4 F' N' l1
end
/-- a reply 229, as parse229 reads it -/
structure Is229 (resp : PySem.Str) (port : Int) (R : Int) (p0 p1 p2 p3 p4 : PySem.Str) : Prop where
  h1 : (Txt.slice resp none (some 3) != ("229" : PySem.Str)) = false
  h2 : (Txt.find resp "(" : Int) = 4
  h3 : (Txt.find3 resp ")" (4 + 1) : Int) = R
  h4 : decide (R < 0) = false
  f1 : fitsSsize (4 + 1) = true
  b1 : -(resp.length : Int) ≤ 4 + 1
  b2 : (4 : Int) + 1 < resp.length
  f3 : fitsSsize (R - 1) = true
  b3 : -(resp.length : Int) ≤ R - 1
  b4 : R - 1 < resp.length
  h5 : (Txt.item resp (4 + 1) != Txt.item resp (R - 1)) = false
  h6 : ((Txt.item resp (4 + 1)).length == 0) = false
  h7 : Txt.split (Txt.slice resp (some (4 + 1)) (some R)) (Txt.item resp (4 + 1)) = [p0, p1, p2, p3, p4]
  h8 : (Txt.slice resp (some (4 + 1)) (some R)).length + 2 ≤ sizeLine
  h10 : p3.length ≤ 640
  h9 : PySem.intText? p3 = some port
theorem fillD1 (w : World) (h : Heap) (X : (Mine.hd.heap_39 w.params).In h) (e : PySem.Challenge.rw_wu0089_01.foot = PySem.Challenge.rw_wu0089_01.foot) : True := by
  revert X e; k_fill; intro _ _; trivial

theorem kw_D1_2 : True := by
  k_with "ktr_enter" => (refine' enter_fn ?q7a ?q7d ?q7e ?q7f ?q7g ?q7h ?q7i ?_ ?q7j ?q7k ?q7b ?q7c; (case q7g => assumption); (case q7a => assumption); (case q7e => k_is); (case q7f => k_is); (case q7d => decide); (case q7h => first | exact BindsTo.of_eq rfl | exact binds_K (Gd.here (by assumption)).X rfl (by k_is) rfl rfl rfl); (case q7j => decide); (case q7i => exact locs rfl); (case q7k => exact rfl); (case q7b => exact rfl); (case q7c => exact rfl); k_whole; rintro zg' zL' zh' zp' zl' zmean' zmg' zmb' zT' zX' zGN zF' zN' zl1 zK1 zhL'; (try dsimp only); (try k_fold))
  k_with "call ref" => (k_here; (with_reducible show wpAny _ _ (call (Value.ref _) _) _ _ _); refine stop ?_)
  k_with "ite" => k_dflt (first | refine ite_pos (by assumption) ?_ | refine ite_neg (ne_true_of_eq_false (by assumption)) ?_ | (k_closed; refine ite_neg (by decide) ?_) | refine stop ?_)
  k_with "call type:int" => (k_here; k_dflt (refine KIN.call_text (by assumption) ?q39a ?_; (case q39a => assumption)))
  k_with "call builtin:str.find" => (k_here; k_dflt (first | refine find_is (by assumption) ?_ | refine find3_is (by assumption) ?_))
  k_with "call builtin:str.split" => (k_here; k_dflt (refine' split5 ?q41a ?q41b ?q41c ?q41d ?q41e ?_; (case q41a => k_asm); (case q41b => k_asm); (case q41c => rfl); (case q41d => assumption); (case q41e => assumption)); intro zD' zh' zk' zt0' zt1' zt2' zt3' zt4' zF' zN' zl1)
  k_with "subscriptTail Name BinOp str int" => (k_dflt (refine item_str (by assumption) (by assumption) (by assumption) ?_; intro _))
  trivial
section
variable {w : World} {s : Shared} {resp pile : PySem.Str} {tr tp t0 : Tok} {pr : Addr} {port R : Int} {p0 p1 p2 p3 p4 : PySem.Str} {Q E : Value → Shared → Prop}
theorem parse229_spec (H : Is229 resp port R p0 p1 p2 p3 p4) (G : Gd w s.heap [pr]) (hp : s.heap.get? pr = some (tupO [.str pile tp, .int 0 t0])) (hz : resp.length < 1000)
    (hQ : ∀ h' q t1 t2 tk, Keeps s.heap h' → h'.get? q = some (tupO [.str pile t1, .int port t2]) → s.heap.get? q = none → Q (.ref q) { s with heap := h', toks := tk }) :
    wpAny (model P0 w) (At 500 3000) (call (.ref 248) [.str resp tr, .ref pr]) Q E s := by
  have hn : ∀ q ∈ [(pr, tupO [.str pile tp, .int 0 t0])], s.heap.get? q.1 = some q.2 := by
    intro q hq; rw [List.mem_singleton.mp hq]; exact hp
  obtain ⟨h1, h2, h3, h4, f1, b1, b2, f3, b3, b4, h5, h6, h7, h8, h10, h9⟩ := H
  refine wpAny_call ?_
  k_dflt ktr_enter
  k_steps
  rename Gnd w s.heap _ _ => GN
  rename Fr _ _ _ _ => F
  rename News _ _ _ _ => N
  have e := (N (_, tupO [.str pile _, .int port _]) (by k_mem))
  refine hQ _ _ _ _ _ (gnd_keeps GN F.keep hn (all_one (N (pr, _) (by k_mem)).1)) e.1 (GN.fresh _ e.2.2 ?_)
  simp only [List.map_cons, List.map_nil, List.mem_cons, List.not_mem_nil, or_false]
  rintro q; exact absurd q (by k_ne)
end
end
section
theorem kw_D2_1 : True := by
  k_with_none
  k_with "execs cons" => ((with_reducible refine seq_cons fun zQ1 ztk zhQ1 => ?_); try dsimp only)
  trivial
section
variable {w : World} {A : Around} {s : Shared} {env : Env} {test : Expr} {body orelse : List Stmt} {R : Result → Shared → Prop}
noncomputable abbrev WTurn (w : World) (A : Around) (env : Env) (test : Expr) (body orelse : List Stmt) (R : Result → Shared → Prop) (Inv : Nat → Shared → Prop) : Prop :=
  ∀ n s, Inv n s → wpAny (model P0 w) A (isTrue test env (eval test env)) (fun b s₂ =>
        if b then wpAny (model P0 w) A (execs body env) (fun f s₃ => match f with
            | .next | .cont => Again Inv n s₃
            | .brk => R (.ok .next) s₃
            | .ret v => R (.ok (.ret v)) s₃) (fun _ _ => False) s₂
        else wpAny (model P0 w) A (execs orelse env) (fun f s₃ => R (.ok f) s₃) (fun _ _ => False) s₂)
        (fun _ _ => False) s
noncomputable abbrev WTurnAt (w : World) (A : Around) (env : Env) (test : Expr) (body orelse : List Stmt) (R : Result → Shared → Prop) (Inv : Nat → Shared → Prop) (n : Nat) (s : Shared) : Prop :=
  wpAny (model P0 w) A (isTrue test env (eval test env)) (fun b s₂ =>
        if b then wpAny (model P0 w) A (execs body env) (fun f s₃ => match f with
            | .next | .cont => Again Inv n s₃
            | .brk => R (.ok .next) s₃
            | .ret v => R (.ok (.ret v)) s₃) (fun _ _ => False) s₂
        else wpAny (model P0 w) A (execs orelse env) (fun f s₃ => R (.ok f) s₃) (fun _ _ => False) s₂)
        (fun _ _ => False) s
theorem whileInv (Inv : Nat → Shared → Prop) (turn : WTurn w A env test body orelse R Inv) (n : Nat) (h : Inv n s) : codeAny (model P0 w) A (.whileLoop test body orelse env) R s := by
  refine codeAny_whileLoop Inv (fun n s hI => ?_) n h
  refine wpAny_mono (turn n s hI) (fun b s₁ hr => ?_) fun _ _ e => e.elim
  cases b with
  | true => exact wpAny_mono (show wpAny _ _ _ _ _ _ from hr) (fun f s₃ h₃ => by cases f <;> exact h₃) fun _ _ e => e.elim
  | false => exact wpAny_mono (show wpAny _ _ _ _ _ _ from hr) (fun _ _ z => z) fun _ _ e => e.elim
end
/-- how parse257 reads on -/
inductive P257 (x : PySem.Str) : Int → PySem.Str → PySem.Str → Prop
  | fin {i : Int} {a : PySem.Str} : decide (i < (x.length : Int)) = false → P257 x i a a
  | close1 {i : Int} {a : PySem.Str} : decide (i < (x.length : Int)) = true → (Txt.item x i == ("\"" : PySem.Str)) = true → decide (i + 1 ≥ (x.length : Int)) = true → P257 x i a a
  | close2 {i : Int} {a : PySem.Str} : decide (i < (x.length : Int)) = true → (Txt.item x i == ("\"" : PySem.Str)) = true → decide (i + 1 ≥ (x.length : Int)) = false → (Txt.item x (i + 1) != ("\"" : PySem.Str)) = true → P257 x i a a
  | dbl {i : Int} {a r : PySem.Str} : decide (i < (x.length : Int)) = true → (Txt.item x i == ("\"" : PySem.Str)) = true → decide (i + 1 ≥ (x.length : Int)) = false → (Txt.item x (i + 1) != ("\"" : PySem.Str)) = false → P257 x (i + 1 + 1) (a ++ Txt.item x i) r → P257 x i a r
  | sgn {i : Int} {a r : PySem.Str} : decide (i < (x.length : Int)) = true → (Txt.item x i == ("\"" : PySem.Str)) = false → P257 x (i + 1) (a ++ Txt.item x i) r → P257 x i a r
noncomputable abbrev mp (vc : Option Value) (acc i n resp : Value) : PySem.Str → Option Value := fun y => if y = "c" then vc else if y = "dirname" then some acc else if y = "i" then some i else if y = "n" then some n else if y = "resp" then some resp else none
theorem fr_mp {g h : Heap} {L : Addr} {m : PySem.Str → Option Value} {vc : Option Value} {acc i n resp : Value} (F : Fr g L h m) (h1 : m "c" = vc) (h2 : m "dirname" = some acc) (h3 : m "i" = some i) (h4 : m "n" = some n) (h6 : m "resp" = some resp)
    (h5 : ∀ y : PySem.Str, y ≠ "c" → y ≠ "dirname" → y ≠ "i" → y ≠ "n" → y ≠ "resp" → m y = none) : Fr g L h (mp vc acc i n resp) := by
  have : m = mp vc acc i n resp := by
    funext y
    unfold mp
    by_cases a : y = "c"
    · rw [if_pos a, a, h1]
    rw [if_neg a]
    by_cases b : y = "dirname"
    · rw [if_pos b, b, h2]
    rw [if_neg b]
    by_cases c : y = "i"
    · rw [if_pos c, c, h3]
    rw [if_neg c]
    by_cases d : y = "n"
    · rw [if_pos d, d, h4]
    rw [if_neg d]
    by_cases e : y = "resp"
    · rw [if_pos e, e, h6]
    rw [if_neg e, h5 y a b c d e]
  exact this ▸ F
inductive PInv (s0 : Shared) (g : Heap) (L : Addr) (x res : PySem.Str) (tr : Tok) (j : Nat) : Shared → Prop
  | mk (i : Int) (acc : PySem.Str) (vc : Option Value) (h : Heap) (tk : Nat) (t1 : Tok) (t2 : Tok) (t3 : Tok) : (((x.length : Int) + 2 - i).toNat < j) → 0 ≤ i → i ≤ (x.length : Int) + 1 → (acc.length : Int) ≤ i → P257 x i acc res → Fr g L h (mp vc (.str acc t1) (.int i t2) (.int (x.length : Int) t3) (.str x tr)) → News g L h [] → PInv s0 g L x res tr j ⟨h, s0.gens, s0.drawn, tk, s0.os⟩
theorem forP {w : World} {A : Around} {env : Env} {test : Expr} {body orelse : List Stmt} {R : Result → Shared → Prop} {s : Shared} {g h : Heap} {L : Addr} {x res : PySem.Str} {tr t1 t2 t3 : Tok} {vc : Option Value} {tk : Nat} (P : P257 x 5 "" res) (h5 : (5 : Int) ≤ x.length)
    (F : Fr g L h (mp vc (.str "" t1) (.int 5 t2) (.int (x.length : Int) t3) (.str x tr))) (N : News g L h []) (turn : ∀ j i acc vc h tk t1 t2 t3, ((x.length : Int) + 2 - i).toNat < j → 0 ≤ i → i ≤ (x.length : Int) + 1 → (acc.length : Int) ≤ i → P257 x i acc res → Fr g L h (mp vc (.str acc t1) (.int i t2) (.int (x.length : Int) t3) (.str x tr)) → News g L h [] → WTurnAt w A env test body orelse R (PInv s g L x res tr) j ⟨h, s.gens, s.drawn, tk, s.os⟩) : codeAny (model P0 w) A (.whileLoop test body orelse env) R ⟨h, s.gens, s.drawn, tk, s.os⟩ :=
  whileInv (PInv s g L x res tr) (fun j s' hI => hI.casesOn (motive := fun s' _ => WTurnAt w A env test body orelse R (PInv s g L x res tr) j s') (turn j)) _ (.mk 5 "" vc h tk t1 t2 t3 (Nat.lt_succ_self _) (by omega) (by omega) (by rw [e_len]; omega) P F N)
noncomputable def Pd (x : PySem.Str) (i : Int) (a r : PySem.Str) : Prop := ((Txt.item x (i + 1) != ("\"" : PySem.Str)) = true ∧ a = r) ∨ ((Txt.item x (i + 1) != ("\"" : PySem.Str)) = false ∧ P257 x (i + 1 + 1) (a ++ Txt.item x i) r)
noncomputable def Pc (x : PySem.Str) (i : Int) (a r : PySem.Str) : Prop := (decide (i + 1 ≥ (x.length : Int)) = true ∧ a = r) ∨ (decide (i + 1 ≥ (x.length : Int)) = false ∧ Pd x i a r)
noncomputable def Pb (x : PySem.Str) (i : Int) (a r : PySem.Str) : Prop := ((Txt.item x i == ("\"" : PySem.Str)) = true ∧ Pc x i a r) ∨ ((Txt.item x i == ("\"" : PySem.Str)) = false ∧ P257 x (i + 1) (a ++ Txt.item x i) r)
theorem P257.inv {x : PySem.Str} {i : Int} {a r : PySem.Str} (P : P257 x i a r) : (decide (i < (x.length : Int)) = false ∧ a = r) ∨ (decide (i < (x.length : Int)) = true ∧ Pb x i a r) := by
  induction P with
  | fin a => exact .inl ⟨a, rfl⟩
  | close1 a b c => exact .inr ⟨a, .inl ⟨b, .inl ⟨c, rfl⟩⟩⟩
  | close2 a b c d => exact .inr ⟨a, .inl ⟨b, .inr ⟨c, .inl ⟨d, rfl⟩⟩⟩⟩
  | dbl a b c d e ih => exact .inr ⟨a, .inl ⟨b, .inr ⟨c, .inr ⟨d, e⟩⟩⟩⟩
  | sgn a b c ih => exact .inr ⟨a, .inr ⟨b, c⟩⟩
theorem orE2 {p q p' q' G : Prop} (h : (p ∧ q) ∨ (p' ∧ q')) (h1 : p → q → G) (h2 : p' → q' → G) : G := h.elim (fun z => h1 z.1 z.2) fun z => h2 z.1 z.2
section
variable {s : Shared} {g h : Heap} {L : Addr} {x res acc : PySem.Str} {tr t1 t2 t3 : Tok} {vc : Option Value} {tk j : Nat} {i : Int}
theorem pinv_again (hj : ((x.length : Int) + 2 - i).toNat < j) (i0 : 0 ≤ i) (hi : i < (x.length : Int)) (ha : (acc.length : Int) ≤ i) {i2 : Int} (e : i2 = i + 1 ∨ i2 = i + 1 + 1) (h2 : i2 ≤ (x.length : Int) + 1) (P : P257 x i2 (acc ++ Txt.item x i) res)
    (F : Fr g L h (mp vc (.str (acc ++ Txt.item x i) t1) (.int i2 t2) (.int (x.length : Int) t3) (.str x tr))) (N : News g L h []) : Again (PInv s g L x res tr) j ⟨h, s.gens, s.drawn, tk, s.os⟩ :=
  ⟨_, hj, .mk i2 _ vc h tk t1 t2 t3 (by omega) (by omega) h2 (by rw [Str_len, len_item]; omega) P F N⟩
theorem p_fits (hz : x.length < 1000) (i0 : 0 ≤ i) (hi : i < (x.length : Int)) : fitsSsize i = true ∧ -(x.length : Int) ≤ i := ⟨fitsSsize_of (N := 9223372036854775808) (by omega) (by omega) (Int.le_refl _), by omega⟩
theorem p_size (hz : x.length < 1000) (hi : i ≤ (x.length : Int) + 1) (ha : (acc.length : Int) ≤ i) : acc.length + (Txt.item x i).length ≤ sizeLine := by
  have : (1003 : Nat) ≤ sizeLine := by decide
  rw [len_item]; omega
end
theorem fillD2 (w : World) (h : Heap) (X : (Mine.hd.heap_39 w.params).In h) (e : PySem.Challenge.rw_wu0089_01.foot = PySem.Challenge.rw_wu0089_01.foot) : True := by
  revert X e; k_fill; intro _ _; trivial

theorem kw_D2_2 : True := by
  k_with "ktr_enter" => (refine' enter_fn ?q7a ?q7d ?q7e ?q7f ?q7g ?q7h ?q7i ?_ ?q7j ?q7k ?q7b ?q7c; (case q7g => assumption); (case q7a => assumption); (case q7e => k_is); (case q7f => k_is); (case q7d => decide); (case q7h => first | exact BindsTo.of_eq rfl | exact binds_K (Gd.here (by assumption)).X rfl (by k_is) rfl rfl rfl); (case q7j => decide); (case q7i => exact locs rfl); (case q7k => exact rfl); (case q7b => exact rfl); (case q7c => exact rfl); k_whole; rintro zg' zL' zh' zp' zl' zmean' zmg' zmb' zT' zX' zGN zF' zN' zl1 zK1 zhL'; (try dsimp only); (try k_fold))
  k_with "ite" => k_dflt (first | refine ite_pos (by assumption) ?_ | refine ite_neg (ne_true_of_eq_false (by assumption)) ?_ | (k_closed; refine ite_neg (by decide) ?_) | (k_closed; refine ite_pos (by decide) ?_) | refine stop ?_)
  k_with "subscriptTail Name Name str int" => (k_dflt (refine item_str (by assumption) (by assumption) (by assumption) ?_; intro _))
  k_with "exec While" => (k_here; refine stop ?_)
  k_with "binaryOp Add str str" => k_dflt ((refine SBL.add (hsz := ?q45a) ?_); (case q45a => assumption); intro _ _)
  trivial
section
variable {w : World} {s : Shared} {resp res : PySem.Str} {tr : Tok} {Q E : Value → Shared → Prop}
theorem parse257_spec (G : Gd w s.heap []) (hz : resp.length < 1000) (h1 : (Txt.slice resp none (some 3) != ("257" : PySem.Str)) = false) (h2 : (Txt.slice resp (some 3) (some 5) != (" \"" : PySem.Str)) = false)
    (h3 : (5 : Int) ≤ resp.length) (P : P257 resp 5 "" res) (hQ : ∀ h' tk t, Keeps s.heap h' → Q (.str res t) { s with heap := h', toks := tk }) :
    wpAny (model P0 w) (At 500 3000) (call (.ref 255) [.str resp tr]) Q E s := by
  have hQ2 : ∀ h' tk t v, v = res → Keeps s.heap h' → Q (.str v t) { s with heap := h', toks := tk } := by
    intro h' tk t v e
    subst e
    exact hQ h' tk t
  have hn : ∀ q ∈ ([] : List (Addr × Obj)), s.heap.get? q.1 = some q.2 := fun q hq => nomatch hq
  refine wpAny_call ?_
  k_dflt ktr_enter
  k_steps
  unfold Stop
  refine wpAny_While ?_
  rename Gnd w s.heap _ _ => GN
  rename Fr _ _ _ _ => F
  rename News _ _ _ _ => N
  have F2 := fr_mp F rfl rfl rfl rfl rfl (fun y a b c d e => by simp [mp, a, b, c, d, e])
  refine forP P h3 F2 N ?_
  clear F F2 N P
  intro j i acc vc h tk t1 t2 t3 hj i0 i1 ha P F N
  refine orE2 P.inv (fun q1 e => ?_) (fun q1 P => ?_)
  · k_steps
    rename Fr _ _ _ _ => F
    rename News _ _ _ _ => N
    exact hQ2 _ _ _ _ e (gnd_keeps GN F.keep hn (fun p hp => nomatch hp))
  · have q4 : i < (resp.length : Int) := of_decide_eq_true q1
    have qf := p_fits hz i0 q4
    have q5 := qf.1
    have q6 := qf.2
    clear qf
    have qz := p_size hz i1 ha
    k_steps
    unfold Stop
    refine orE2 P (fun q2 P => ?_) (fun q2 P => ?_)
    · k_steps
      unfold Stop
      refine orE2 P (fun q3 e => ?_) (fun q3 P => ?_)
      · k_steps
        rename Fr _ _ _ _ => F
        rename News _ _ _ _ => N
        exact hQ2 _ _ _ _ e (gnd_keeps GN F.keep hn (fun p hp => nomatch hp))
      · have q7 : i + 1 < (resp.length : Int) := by have := of_decide_eq_false q3; omega
        have qf := p_fits hz (Int.le_add_one i0) q7
        have q8 := qf.1
        have q9 := qf.2
        clear qf
        k_steps
        unfold Stop
        refine orE2 P (fun q10 e => ?_) (fun q10 P => ?_)
        · k_steps
          rename Fr _ _ _ _ => F
          rename News _ _ _ _ => N
          exact hQ2 _ _ _ _ e (gnd_keeps GN F.keep hn (fun p hp => nomatch hp))
        · k_steps
          show Again _ _ _
          rename Fr _ _ _ _ => F
          rename News _ _ _ _ => N
          exact pinv_again hj i0 q4 ha (.inr rfl) (by omega) P (fr_mp F rfl rfl rfl rfl rfl (fun y a b c d e => by simp [mp, a, b, c, d, e])) N
    · k_steps
      show Again _ _ _
      rename Fr _ _ _ _ => F
      rename News _ _ _ _ => N
      exact pinv_again hj i0 q4 ha (.inl rfl) (by omega) P (fr_mp F rfl rfl rfl rfl rfl (fun y a b c d e => by simp [mp, a, b, c, d, e])) N
end
end
section
theorem kw_D3_1 : True := by
  k_with_none
  k_with "execs cons" => ((with_reducible refine seq_cons fun zQ1 ztk zhQ1 => ?_); try dsimp only)
  trivial
theorem fillD3 (w : World) (h : Heap) (X : (Mine.hd.heap_39 w.params).In h) (e : PySem.Challenge.rw_wu0089_01.foot = PySem.Challenge.rw_wu0089_01.foot) : True := by
  revert X e; k_fill; intro _ _; trivial

theorem kw_D3_2 : True := by
  k_with "ktr_enter" => (refine' enter_fn ?q7a ?q7d ?q7e ?q7f ?q7g ?q7h ?q7i ?_ ?q7j ?q7k ?q7b ?q7c; (case q7g => assumption); (case q7a => assumption); (case q7e => k_is); (case q7f => k_is); (case q7d => decide); (case q7h => first | exact BindsTo.of_eq rfl | exact binds_K (Gd.here (by assumption)).X rfl (by k_is) rfl rfl rfl); (case q7j => decide); (case q7i => exact locs rfl); (case q7k => exact rfl); (case q7b => exact rfl); (case q7c => exact rfl); k_whole; rintro zg' zL' zh' zp' zl' zmean' zmg' zmb' zT' zX' zGN zF' zN' zl1 zK1 zhL'; (try dsimp only); (try k_fold))
  trivial
noncomputable def collN (a b : PySem.Str) : Int := b2i (decide (b.cps.toList < a.cps.toList)) - b2i (decide (a.cps.toList < b.cps.toList))
section
variable {w : World} {s : Shared} {a b : PySem.Str} {ta tb : Tok} {Q E : Value → Shared → Prop}
theorem strcoll_spec (G : Gd w s.heap [])
    (hQ : ∀ h' tk t, Keeps s.heap h' → Q (.int (collN a b) t) { s with heap := h', toks := tk }) :
    wpAny (model P0 w) (At 500 3000) (call (.ref 262) [.str a ta, .str b tb]) Q E s := by
  have hn : ∀ q ∈ ([] : List (Addr × Obj)), s.heap.get? q.1 = some q.2 := fun q hq => nomatch hq
  refine wpAny_call ?_
  k_dflt ktr_enter
  k_steps
  rename Gnd w s.heap _ _ => GN
  rename Fr _ _ _ _ => F
  exact hQ _ _ _ (gnd_keeps GN F.keep hn (fun p hp => nomatch hp))
theorem strcoll_W {A : Around} {g : Heap} {L : Addr} {m : PySem.Str → Option Value} {news : List (Addr × Obj)} (B : Bs w g) (F : Fr g L s.heap m) (N : News g L s.heap news) (hA : Le A (At 500 3000))
    (h : ∀ h' tk t, Fr g L h' m → News g L h' news → Q (.int (collN a b) t) { s with heap := h', toks := tk }) :
    wpAny (model P0 w) A (call (.ref 262) [.str a ta, .str b tb]) Q E s :=
  at_le hA (strcoll_spec (gdN B F N (fun a h => nomatch h)) fun h' tk t k => h h' tk t (fr_keeps F k) (news_keeps N k))
end
end
section
/-- an array of values that stands for a list -/
structure ArrIs {α : Type} (rel : Value → α → Prop) (a : Array Value) (l : List α) : Prop where
  size : a.size = l.length
  at_ : ∀ (k : Nat) (e : α), l[k]? = some e → ∃ v, a[k]? = some v ∧ rel v e
namespace ArrIs
variable {α : Type} {rel rel' : Value → α → Prop} {a : Array Value} {l : List α} {v : Value} {e : α}
theorem nil : ArrIs rel #[] ([] : List α) := ⟨rfl, fun k e h => by simp at h⟩
theorem mono (R : ArrIs rel a l) (h : ∀ v e, rel v e → rel' v e) : ArrIs rel' a l := ⟨R.size, fun k e he => let ⟨v, a, b⟩ := R.at_ k e he; ⟨v, a, h _ _ b⟩⟩
theorem push (R : ArrIs rel a l) (h : rel v e) : ArrIs rel (a.push v) (l ++ [e]) := by
  refine ⟨by simp [R.size], fun k p hk => ?_⟩
  by_cases q : k < l.length
  · rw [List.getElem?_append_left q] at hk
    obtain ⟨T, a1, a2⟩ := R.at_ k p hk
    have : k < a.size := R.size ▸ q
    exact ⟨T, by rw [Array.getElem?_push, if_neg (by omega)]; exact a1, a2⟩
  · have q2 : k = l.length := by
      obtain ⟨hl, _⟩ := List.getElem?_eq_some_iff.mp hk
      simp at hl; omega
    subst q2
    rw [List.getElem?_append_right (Nat.le_refl _)] at hk
    simp at hk
    subst hk
    exact ⟨v, by rw [← R.size]; simp, h⟩
theorem pop (R : ArrIs rel a (l ++ [e])) : ∃ (b : Array Value) (v : Value), a = b.push v ∧ rel v e ∧ ArrIs rel b l := by
  have hs : a.size = l.length + 1 := by simpa using R.size
  have hne : a ≠ #[] := fun q => by rw [q] at hs; simp at hs
  obtain ⟨b, v, rfl⟩ : ∃ (b : Array Value) (v : Value), a = b.push v := Array.exists_push_of_ne_empty hne
  have hb : b.size = l.length := by simpa using hs
  refine ⟨b, v, rfl, ?_, hb, fun k p hk => ?_⟩
  · obtain ⟨v', a1, a2⟩ := R.at_ l.length e (by simp)
    rw [← hb] at a1
    simp at a1
    exact a1 ▸ a2
  · have hl := (List.getElem?_eq_some_iff.mp hk).1
    obtain ⟨v', a1, a2⟩ := R.at_ k p (by rw [List.getElem?_append_left hl]; exact hk)
    rw [Array.getElem?_push, if_neg (by omega)] at a1
    exact ⟨v', a1, a2⟩
theorem nil_inv (R : ArrIs rel a ([] : List α)) : a = #[] := by
  have := R.size
  simpa using this
theorem toL (R : ArrIs rel a l) : List.length a.toList = l.length ∧ ∀ (k : Nat) (e : α), l[k]? = some e → ∃ v, a.toList[k]? = some v ∧ rel v e := ⟨by simpa using R.size, fun k e h => by simpa using R.at_ k e h⟩
end ArrIs
theorem reads_arr {α : Type} {h : Heap} {enc : α → PyData} : ∀ {vs : List Value} {l : List α}, vs.length = l.length → (∀ (k : Nat) (e : α), l[k]? = some e → ∃ v, vs[k]? = some v ∧ Reads h v (enc e) []) → ReadsAll h vs (l.map enc) []
  | [], [], _, _ => .nil
  | v :: r, e :: l, hl, hk => by
    obtain ⟨v', a, b⟩ := hk 0 e rfl
    have : v = v' := by simpa using a
    subst this
    exact ReadsAll.cons (as := []) (bs := []) b (reads_arr (by simpa using hl) fun k e h => by simpa using hk (k + 1) e (by simpa using h))
/-- what is told -/
inductive TE where
  | sgn (s : PySem.Str)
  | port (p : PySem.Str) (n : Int)
  | name (p d : PySem.Str)
noncomputable def TE.data : TE → PyData
  | .sgn s => .str s
  | .port p n => .tuple [.str p, .int n]
  | .name p d => .tuple [.str p, .str d]
noncomputable def TEv (R : List (Addr × Obj)) (v : Value) : TE → Prop
  | .sgn s => ∃ t, v = .str s t
  | .port p n => ∃ q t1 t2, v = .ref q ∧ (q, tupO [.str p t1, .int n t2]) ∈ R
  | .name p d => ∃ q t1 t2, v = .ref q ∧ (q, tupO [.str p t1, .str d t2]) ∈ R
theorem TEv.mono {R R' : List (Addr × Obj)} (h : ∀ p ∈ R, p ∈ R') : ∀ v e, TEv R v e → TEv R' v e
  | v, .sgn s, ⟨t, e⟩ => ⟨t, e⟩
  | v, .port p n, ⟨q, t1, t2, e, m⟩ => ⟨q, t1, t2, e, h _ m⟩
  | v, .name p d, ⟨q, t1, t2, e, m⟩ => ⟨q, t1, t2, e, h _ m⟩
theorem TEv.reads {R : List (Addr × Obj)} {h : Heap} (hR : ∀ p ∈ R, h.get? p.1 = some p.2) : ∀ {v e}, TEv R v e → Reads h v e.data []
  | v, .sgn s, ⟨t, e⟩ => by subst e; exact .str _ _
  | v, .port p n, ⟨q, t1, t2, e, m⟩ => by
    subst e
    exact reads_tuple_at (hR _ m) rfl rfl (ReadsAll.cons (as := []) (bs := []) (.str _ _) (ReadsAll.cons (as := []) (bs := []) (.int _ _) .nil))
  | v, .name p d, ⟨q, t1, t2, e, m⟩ => by
    subst e
    exact reads_tuple_at (hR _ m) rfl rfl (ReadsAll.cons (as := []) (bs := []) (.str _ _) (ReadsAll.cons (as := []) (bs := []) (.str _ _) .nil))
noncomputable def RowV (R : List (Addr × Obj)) (v : Value) (p : PySem.Str) : Prop := ∃ q t1 t2, v = .ref q ∧ (q, tupO [.str "" t1, .str p t2]) ∈ R
theorem RowV.mono {R R' : List (Addr × Obj)} (h : ∀ p ∈ R, p ∈ R') : ∀ v e, RowV R v e → RowV R' v e
  | v, p, ⟨q, t1, t2, e, m⟩ => ⟨q, t1, t2, e, h _ m⟩
noncomputable def EndV (v : Value) (e : Int) : Prop := ∃ t, v = .int e t
noncomputable abbrev rowsOf (P : List PySem.Str) : List (PySem.Str × PySem.Str) := P.map fun p => (("" : PySem.Str), p)
theorem rws_of {R : List (Addr × Obj)} {h : Heap} {items : Array Value} {P : List PySem.Str} (hR : ∀ p ∈ R, h.get? p.1 = some p.2) (A : ArrIs (RowV R) items P) : Rws h items (rowsOf P) := by
  refine ⟨by simpa using A.size, fun k p hk => ?_⟩
  rw [List.getElem?_map] at hk
  obtain ⟨e, he, rfl⟩ := Option.map_eq_some_iff.mp hk
  obtain ⟨v, a, q, t1, t2, rfl, m⟩ := A.at_ k e he
  exact ⟨q, t1, t2, a, hR _ m⟩
theorem rows_in {R : List (Addr × Obj)} {items : Array Value} {P : List PySem.Str} (A : ArrIs (RowV R) items P) : ∀ T, .ref T ∈ items → ∃ o, (T, o) ∈ R := fun T hT => by
  obtain ⟨k, hk, e⟩ := Array.mem_iff_getElem.mp hT
  have hl : k < P.length := A.size ▸ hk
  obtain ⟨v, a, q, t1, t2, rfl, m⟩ := A.at_ k P[k] (List.getElem?_eq_getElem hl)
  have : items[k]? = some (.ref T) := by rw [Array.getElem?_eq_getElem hk, e]
  rw [this] at a
  cases a
  exact ⟨_, m⟩
/-- what comes off the pile goes on coming off -/
inductive PopT (word : PySem.Str) : PySem.Str → List PySem.Str → List TE → List PySem.Str → List TE → PySem.Str → Prop
  | stop1 {v : PySem.Str} {P : List PySem.Str} {T : List TE} : decide (collN v word > 0) = false → (v == word) = false → PopT word v P T P T v
  | stop2 {v : PySem.Str} {P : List PySem.Str} {T : List TE} : decide (collN v word > 0) = false → (v == word) = true → (word != ("^" : PySem.Str)) = false → PopT word v P T P T v
  | pop1 {v v1 top : PySem.Str} {P P' : List PySem.Str} {T T' : List TE} : decide (collN v word > 0) = true → T.length < 1000 → P.length < 1000 → PopT word v1 P (T ++ [.sgn v]) P' T' top → PopT word v (P ++ [v1]) T P' T' top
  | pop2 {v v1 top : PySem.Str} {P P' : List PySem.Str} {T T' : List TE} : decide (collN v word > 0) = false → (v == word) = true → (word != ("^" : PySem.Str)) = true → T.length < 1000 → P.length < 1000 → PopT word v1 P (T ++ [.sgn v]) P' T' top → PopT word v (P ++ [v1]) T P' T' top
noncomputable abbrev S229 (word : PySem.Str) : Bool := Txt.slice word none (some 3) == ("229" : PySem.Str)
noncomputable abbrev S257 (word : PySem.Str) : Bool := Txt.slice word none (some 3) == ("257" : PySem.Str)
/-- one word read -/
inductive StepR (word : PySem.Str) : List PySem.Str → List TE → List PySem.Str → List TE → Prop
  | port {P : List PySem.Str} {T : List TE} {n R : Int} {p0 p1 p2 p3 p4 : PySem.Str} : S229 word = true → Is229 word n R p0 p1 p2 p3 p4 → word.length < 1000 → Small (rowsOf P) → T.length < 1000 → StepR word P T P (T ++ [.port (catAll (rowsOf P)) n])
  | name {P : List PySem.Str} {T : List TE} {d : PySem.Str} : S229 word = false → S257 word = true → word.length < 1000 → (Txt.slice word none (some 3) != ("257" : PySem.Str)) = false → (Txt.slice word (some 3) (some 5) != (" \"" : PySem.Str)) = false →
      (5 : Int) ≤ word.length → P257 word 5 "" d → Small (rowsOf P) → T.length < 1000 → StepR word P T P (T ++ [.name (catAll (rowsOf P)) d])
  | lp {P : List PySem.Str} {T : List TE} : S229 word = false → S257 word = false → (word == ("(" : PySem.Str)) = true → P.length < 1000 → StepR word P T (P ++ [word]) T
  | close {P P' : List PySem.Str} {T T' : List TE} {v top : PySem.Str} : S229 word = false → S257 word = false → (word == ("(" : PySem.Str)) = false → P.length < 1000 → PopT word v P T P' T' top → (word != (")" : PySem.Str)) = false → StepR word (P ++ [v]) T P' T'
  | sign {P P' : List PySem.Str} {T T' : List TE} {v top : PySem.Str} : S229 word = false → S257 word = false → (word == ("(" : PySem.Str)) = false → P.length < 1000 → PopT word v P T P' T' top → (word != (")" : PySem.Str)) = true → P'.length < 1000 → StepR word (P ++ [v]) T (P' ++ [top, word]) T'
/-- the whole reading, from the word in hand -/
inductive LR : Nat → PySem.Str → List Nat → Int → List PySem.Str → List TE → List Int → List PySem.Str → List TE → List Int → Prop
  | fin {k : Nat} {r : List Nat} {n : Int} {P : List PySem.Str} {T : List TE} {E : List Int} : LR k "" r n P T E P T E
  | step {k : Nat} {word tok : PySem.Str} {r r1 : List Nat} {n n1 : Int} {P P1 P' : List PySem.Str} {T T1 T' : List TE} {E E' : List Int} : word.length < 1000 → T.length < 1000 → P.length < 1000 → (word != ("" : PySem.Str)) = true → StepR word P T P1 T1 → r.length ≤ sizeLine → TokR r n tok r1 n1 → E.length < 1000 → LR k tok r1 n1 P1 T1 (E ++ [n]) P' T' E' → LR (k + 1) word r n P T E P' T' E'
end
section
theorem kw_D5_1 : True := by
  k_with_none
  k_with "execs cons" => ((with_reducible refine seq_cons fun zQ1 ztk zhQ1 => ?_); try dsimp only)
  trivial
noncomputable abbrev mr (word : Value) (top : Option Value) (lexer pile told ends : Value) : PySem.Str → Option Value := fun y => if y = "word" then some word else if y = "top" then top else if y = "lexer" then some lexer else if y = "pile" then some pile else if y = "told" then some told else if y = "ends" then some ends else none
theorem fr_mr {g h : Heap} {L : Addr} {m : PySem.Str → Option Value} {word : Value} {top : Option Value} {lexer pile told ends : Value} (F : Fr g L h m) (h1 : m "word" = some word) (h2 : m "top" = top) (h3 : m "lexer" = some lexer) (h4 : m "pile" = some pile) (h6 : m "told" = some told) (h7 : m "ends" = some ends)
    (h5 : ∀ y : PySem.Str, y ≠ "word" → y ≠ "top" → y ≠ "lexer" → y ≠ "pile" → y ≠ "told" → y ≠ "ends" → m y = none) : Fr g L h (mr word top lexer pile told ends) := by
  have : m = mr word top lexer pile told ends := by
    funext y
    unfold mr
    by_cases a : y = "word"
    · rw [if_pos a, a, h1]
    rw [if_neg a]
    by_cases b : y = "top"
    · rw [if_pos b, b, h2]
    rw [if_neg b]
    by_cases c : y = "lexer"
    · rw [if_pos c, c, h3]
    rw [if_neg c]
    by_cases d : y = "pile"
    · rw [if_pos d, d, h4]
    rw [if_neg d]
    by_cases e : y = "told"
    · rw [if_pos e, e, h6]
    rw [if_neg e]
    by_cases f : y = "ends"
    · rw [if_pos f, f, h7]
    rw [if_neg f, h5 y a b c d e f]
  exact this ▸ F
section
variable {w : World} {s : Shared} {A : Around} {g : Heap} {L : Addr} {m : PySem.Str → Option Value} {C : LxC} {rest : List (Nat × Tok)} {n : Int} {t : Tok} {k kp : Nat} {E : Value → Shared → Prop}
theorem token_W {ex R : List (Addr × Obj)} {tok : PySem.Str} {r' : List Nat} {n' : Int} {Q : Value → Shared → Prop} (K : LxK w.params C) (B : Bs w g) (F : Fr g L s.heap m) (N : News g L s.heap (ex ++ (lxNews C rest n t k kp ++ R))) (hx : ∀ p ∈ ex, p.1 ≠ C.dl ∧ p.1 ≠ C.sg) (hR : ∀ p ∈ R, p.1 ≠ C.dl ∧ p.1 ≠ C.sg)
    (T : TokR (rest.map Prod.fst) n tok r' n') (hz : rest.length ≤ sizeLine) (hA : Le A (At 500 3000))
    (h : ∀ h' tk u rest' t' k', rest'.map Prod.fst = r' → Fr g L h' m → News g L h' (ex ++ (lxNews C rest' n' t' k' kp ++ R)) → Q (.str tok u) { s with heap := h', toks := tk }) :
    wpAny (model P0 w) A (call (.ref 290) [.ref C.l]) Q E s := by
  have N2 : News g L s.heap ((ex ++ R) ++ lxNews C rest n t k kp) := fun p hp => N p (by
    rcases List.mem_append.mp hp with hp | hp
    · rcases List.mem_append.mp hp with hp | hp
      · exact List.mem_append_left _ hp
      · exact List.mem_append_right _ (List.mem_append_right _ hp)
    · exact List.mem_append_right _ (List.mem_append_left _ hp))
  have hs : ∀ p ∈ lxNews C rest n t k kp, p ∈ (ex ++ R) ++ lxNews C rest n t k kp := fun p hp => List.mem_append_right _ hp
  have G : Gd w s.heap (own9 C) := gdN B F N2 fun a ha => by
    simp only [List.mem_cons, List.not_mem_nil, or_false] at ha
    rcases ha with rfl | rfl | rfl | rfl | rfl | rfl | rfl | rfl | rfl <;> exact ⟨_, hs (_, _) (by k_mem)⟩
  refine at_le hA (token_spec T K (lx_of K N2 hs) (N2 (C.pb, _) (hs _ (by k_mem))).1 G hz fun h' tk u rest' er kk X => ?_)
  obtain ⟨t', k', N'⟩ := lx_after K N2 (fun p hp => (List.mem_append.mp hp).elim (hx p) (hR p)) kk X
  refine h h' tk u rest' t' k' er (fr_butS F N2 (own2 N2 hs) kk) fun p hp => N' p (by
    rcases List.mem_append.mp hp with hp | hp
    · exact List.mem_append_left _ (List.mem_append_left _ hp)
    · rcases List.mem_append.mp hp with hp | hp
      · exact List.mem_append_right _ hp
      · exact List.mem_append_left _ (List.mem_append_right _ hp))
theorem p229_W {resp pile : PySem.Str} {tr tp t0 : Tok} {pr : Addr} {port R : Int} {p0 p1 p2 p3 p4 : PySem.Str} {news : List (Addr × Obj)} {Q : Value → Shared → Prop} (H : Is229 resp port R p0 p1 p2 p3 p4) (B : Bs w g) (F : Fr g L s.heap m) (N : News g L s.heap news) (hp : (pr, tupO [.str pile tp, .int 0 t0]) ∈ news) (hz : resp.length < 1000) (hA : Le A (At 500 3000))
    (h : ∀ h' q t1 t2 tk, Fr g L h' m → News g L h' ((q, tupO [.str pile t1, .int port t2]) :: news) → (∀ p ∈ news, p.1 ≠ q) → Q (.ref q) { s with heap := h', toks := tk }) :
    wpAny (model P0 w) A (call (.ref 248) [.str resp tr, .ref pr]) Q E s :=
  at_le hA (parse229_spec H (gdN B F N (all1 ⟨_, hp⟩)) (N _ hp).1 hz fun h' q t1 t2 tk k e nq => h h' q t1 t2 tk (fr_keeps F k) (news_add F (news_keeps N k) nq e) (ne_new N nq))
theorem p257_W {resp res : PySem.Str} {tr : Tok} {news : List (Addr × Obj)} {Q : Value → Shared → Prop} (B : Bs w g) (F : Fr g L s.heap m) (N : News g L s.heap news) (hz : resp.length < 1000) (h1 : (Txt.slice resp none (some 3) != ("257" : PySem.Str)) = false) (h2 : (Txt.slice resp (some 3) (some 5) != (" \"" : PySem.Str)) = false) (h3 : (5 : Int) ≤ resp.length) (P : P257 resp 5 "" res) (hA : Le A (At 500 3000))
    (h : ∀ h' tk t, Fr g L h' m → News g L h' news → Q (.str res t) { s with heap := h', toks := tk }) :
    wpAny (model P0 w) A (call (.ref 255) [.str resp tr]) Q E s :=
  at_le hA (parse257_spec (gdN B F N (fun a h => nomatch h)) hz h1 h2 h3 P fun h' tk t k => h h' tk t (fr_keeps F k) (news_keeps N k))
theorem new0_W {news : List (Addr × Obj)} {Q : Value → Shared → Prop} (B : Bs w g) (F : Fr g L s.heap m) (N : News g L s.heap news) (hA : Le A (At 530 3300))
    (h : ∀ h' x dx tk hs tk0 t, Fr g L h' m → News g L h' ((x, accO dx #[] 0) :: (dx, dictOf (es1 hs tk0 t) 1) :: news) → (∀ p ∈ news, p.1 < dx) → @LT.lt Nat _ dx x → @LT.lt Nat _ L dx → Q (.ref x) { s with heap := h', toks := tk }) :
    wpAny (model P0 w) A (call (.ref 200) []) Q E s :=
  at_le hA (new0_spec (B.keeps F.keep) fun h' x dx tk hs tk0 t k ex ed nx nd lt le => h h' x dx tk hs tk0 t (fr_keeps F k) (news_add F (news_add F (news_keeps N k) nd ed) nx ex) (fun p hp => Nat.lt_of_lt_of_le (Heap.lt_size (N p hp).1) le) lt (Nat.lt_of_lt_of_le F.ns.lt le))
end
theorem fillD5 (w : World) (h : Heap) (X : (Mine.hd.heap_39 w.params).In h) (e : PySem.Challenge.rw_wu0089_01.foot = PySem.Challenge.rw_wu0089_01.foot) : True := by
  revert X e; k_fill; intro _ _; trivial
theorem kw_D5_2 : True := by
  k_with "ktr_enter" => (refine' enter_fn ?q7a ?q7d ?q7e ?q7f ?q7g ?q7h ?q7i ?_ ?q7j ?q7k ?q7b ?q7c; (case q7g => assumption); (case q7a => assumption); (case q7e => k_is); (case q7f => k_is); (case q7d => decide); (case q7h => first | exact BindsTo.of_eq rfl | exact binds_K (Gd.here (by assumption)).X rfl (by k_is) rfl rfl rfl); (case q7j => decide); (case q7i => exact locs rfl); (case q7k => exact rfl); (case q7b => exact rfl); (case q7c => exact rfl); k_whole; rintro zg' zL' zh' zp' zl' zmean' zmg' zmb' zT' zX' zGN zF' zN' zl1 zK1 zhL'; (try dsimp only); (try k_fold))
  k_with "k_inst" => (refine' acc_inst ?q2a ?q2b ?q2c; (case q2a => k_asm); (case q2b => k_mem); (case q2c => k_mem))
  k_with "call ref" => (k_here; (with_reducible show wpAny _ _ (call (Value.ref _) _) _ _ _); refine stop ?_)
  k_with "exec While" => (k_here; refine stop ?_)
  k_with "ite" => k_dflt (first | refine ite_pos (by assumption) ?_ | refine ite_neg (ne_true_of_eq_false (by assumption)) ?_)
  trivial
local macro_rules | `(tactic| k_all) => `(tactic| assumption)

theorem kw_D5_3 : True := by
  k_with "call builtin:list.append" => (k_here; (with_reducible show wpAny _ _ (call (Value.builtin _) [Value.ref _, _]) _ _ _); k_dflt (refine' append_K ?q46a ?q46b ?q46c ?_ ?q46d; (case q46a => k_asm); (case q46b => k_asm); (case q46c => k_upd); (case q46d => assumption); k_whole); intro zh' zF' zN'; (try k_sweep))
  k_with "getMethod ref" => (k_here; (with_reducible show wpAny _ _ (getMethod (Value.ref _) _ _) _ _ _); k_dflt (refine' method_fnA ?q13a ?q13b ?q13c ?q13d ?q13h ?q13i ?q13e ?q13f ?q13g ?_; (case q13a => k_asm); (case q13b => k_asm); (case q13c => k_inst); (case q13d => k_is); (case q13h => kernel_rfl); (case q13i => k_is); (case q13e => k_is); (case q13f => k_is); (case q13g => first | assumption | k_get); k_whole))
  trivial
/-- the objects that are there from the start -/
noncomputable abbrev rdA (C : LxC) (x dx tl el : Addr) : List Addr := [x, dx, tl, el, 169, C.l, C.dl, C.f, C.df, C.lam, C.c', C.c, C.sg, C.pb]
noncomputable abbrev rdFix (C : LxC) (x dx tl el : Addr) (items : Array Value) (na : Nat) (hs : Int) (tk0 t0 : Tok) (tv : Array Value) (kt : Nat) (ev : Array Value) (ke : Nat) (oS : Obj) (rest : List (Nat × Tok)) (n : Int) (t : Tok) (k kp : Nat) (R : List (Addr × Obj)) : List (Addr × Obj) :=
  (x, accO dx items na) :: (dx, dictOf (es1 hs tk0 t0) 1) :: (tl, listO tv kt) :: (el, listO ev ke) :: (169, oS) :: (lxNews C rest n t k kp ++ R)
noncomputable def RNe (R : List (Addr × Obj)) (S : List Addr) : Prop := ∀ p ∈ R, ∀ a ∈ S, @Ne Nat p.1 a
theorem RNe.at {R : List (Addr × Obj)} {S : List Addr} {a : Addr} (h : RNe R S) (ha : a ∈ S) : ∀ p ∈ R, p.1 ≠ a := fun p hp => h p hp a ha
noncomputable def RT (R : List (Addr × Obj)) : Prop := ∀ p ∈ R, ∃ l, p.2 = tupO l
theorem tup_ne {c : String} (h : c ≠ "tuple") : ¬ (Value.type c = Value.type "tuple") := fun q => h (by injection q)
theorem lxR_ne {C : LxC} {a : Addr} {R : List (Addr × Obj)} {rest : List (Nat × Tok)} {n : Int} {t : Tok} {k kp : Nat} (h : ∀ b ∈ own9 C, @Ne Nat b a) (hR : ∀ p ∈ R, p.1 ≠ a) : ∀ p ∈ lxNews C rest n t k kp ++ R, p.1 ≠ a := fun p hp => (List.mem_append.mp hp).elim (fun z => h _ (List.mem_map_of_mem (f := Prod.fst) z)) (hR p)
theorem cls_not {o : Obj} (h : o.cls ≠ .type "tuple") : ∀ l, o ≠ tupO l := fun l e => h (by rw [e])
theorem bad_ne {g h : Heap} {L a : Addr} {o : Obj} {news R : List (Addr × Obj)} (N : News g L h news) (hR : RT R) (sub : ∀ p ∈ R, p ∈ news) (m : (a, o) ∈ news) (ho : ∀ l, o ≠ tupO l) {p : Addr × Obj} (hp : p ∈ R) : @Ne Nat p.1 a := fun q => by
  obtain ⟨l, hl⟩ := hR p hp
  have e := (N p (sub p hp)).1
  rw [hl, show p.1 = a from q, (N _ m).1] at e
  exact ho l (Option.some.inj e)
theorem rne_of {P : Params} {g h : Heap} {L x dx tl el : Addr} {C : LxC} {items tv ev : Array Value} {na kt ke k kp : Nat} {hs : Int} {tk0 t0 t : Tok} {oS : Obj} {rest : List (Nat × Tok)} {n : Int} {R : List (Addr × Obj)} (K : LxK P C) (hTS : TabO oS)
    (N : News g L h (rdFix C x dx tl el items na hs tk0 t0 tv kt ev ke oS rest n t k kp R)) (hR : RT R) : RNe R (rdA C x dx tl el) := by
  intro p hp
  have B : ∀ {a o}, (a, o) ∈ rdFix C x dx tl el items na hs tk0 t0 tv kt ev ke oS rest n t k kp R → (∀ l, o ≠ tupO l) → @Ne Nat p.1 a := fun m ho => bad_ne N hR (fun p hp => List.mem_append_right [_, _, _, _, _] (List.mem_append_right (lxNews C rest n t k kp) hp)) m ho hp
  have X : ∀ {a o}, (a, o) ∈ lxNews C rest n t k kp → (∀ l, o ≠ tupO l) → @Ne Nat p.1 a := fun m => B (List.mem_append_right [_, _, _, _, _] (List.mem_append_left _ m))
  obtain ⟨ps, hps, _⟩ := hTS
  obtain ⟨vs, tq, hcf, _⟩ := K.cf
  have hcc := K.cc
  show ∀ a ∈ [x, dx, tl, el, 169] ++ [C.l, C.dl, C.f, C.df, C.lam, C.c', C.c, C.sg, C.pb], @Ne Nat p.1 a
  exact List.forall_mem_append.mpr ⟨mem_all5 (B (o := accO dx items na) (.head _) (cls_not (by intro q; cases q))) (B (o := dictOf (es1 hs tk0 t0) 1) (by k_mem) (cls_not (tup_ne (c := "dict") (by decide)))) (B (o := listO tv kt) (by k_mem) (cls_not (tup_ne (c := "list") (by decide)))) (B (o := listO ev ke) (by k_mem) (cls_not (tup_ne (c := "list") (by decide)))) (B (o := oS) (by k_mem) fun l e => by rw [e] at hps; cases hps),
    mem_all9 (X (o := instObj 300 C.dl) (by k_mem) (cls_not (by intro q; cases q))) (X (o := dictOf (lxEs C n t) 4) (by k_mem) (cls_not (tup_ne (c := "dict") (by decide)))) (X (o := instObj 300 C.df) (by k_mem) (cls_not (by intro q; cases q))) (X (o := dictOf C.eF C.nF) (by k_mem) (cls_not (tup_ne (c := "dict") (by decide)))) (X (o := kla_obj "<lambda>" C.qn C.pa C.lb C.ls [("signs", C.c)] C.pm C.c' C.ctv) (by k_mem) (cls_not (tup_ne (c := "function") (by decide)))) (X (o := C.oC) (by k_mem) fun l e => by rw [e] at hcf; cases hcf) (X (o := C.oc) (by k_mem) fun l e => by rw [e] at hcc; cases hcc) (X (o := listO (sgV rest).toArray k) (by k_mem) (cls_not (tup_ne (c := "list") (by decide)))) (X (o := listO #[] kp) (by k_mem) (cls_not (tup_ne (c := "list") (by decide))))⟩
inductive RInv (s0 : Shared) (C : LxC) (g : Heap) (L x dx tl el : Addr) (hs : Int) (tk0 t0 : Tok) (kp : Nat) (T' : List TE) (E' : List Int) (j : Nat) : Shared → Prop
  | mk (word : PySem.Str) (rest : List (Nat × Tok)) (n : Int) (t : Tok) (k : Nat) (P : List PySem.Str) (T : List TE) (E : List Int) (items : Array Value) (na : Nat) (tv : Array Value) (kt : Nat) (ev : Array Value) (ke : Nat) (oS : Obj) (R : List (Addr × Obj)) (vtop : Option Value) (tw : Tok) (h : Heap) (gs : Array GenState) (tk : Nat) (jj : Nat) : jj < j → LR jj word (rest.map Prod.fst) n P T E [] T' E' → (AllBare s0.gens → AllBare gs) → TabO oS → ArrIs (RowV R) items P → ArrIs (TEv R) tv T → ArrIs EndV ev E → RT R → Fr g L h (mr (.str word tw) vtop (.ref C.l) (.ref x) (.ref tl) (.ref el)) → News g L h (rdFix C x dx tl el items na hs tk0 t0 tv kt ev ke oS rest n t k kp R) → RInv s0 C g L x dx tl el hs tk0 t0 kp T' E' j ⟨h, gs, s0.drawn, tk, s0.os⟩
theorem forRead {w : World} {s : Shared} {A : Around} {env : Env} {test : Expr} {body orelse : List Stmt} {R' : Result → Shared → Prop} {g h : Heap} {L x dx tl el : Addr} {C : LxC} {hs : Int} {tk0 t0 t tw : Tok} {k kp kk tk : Nat} {T' : List TE} {E' : List Int} {tok : PySem.Str} {rest1 : List (Nat × Tok)} {n1 : Int} {oS : Obj} {vtop : Option Value}
    (RR : LR kk tok (rest1.map Prod.fst) n1 [] [] [] [] T' E') (hTS : TabO oS) (F : Fr g L h (mr (.str tok tw) vtop (.ref C.l) (.ref x) (.ref tl) (.ref el)))
    (N : News g L h ((el, listO #[] 0) :: (tl, listO #[] 0) :: (x, accO dx #[] 0) :: (dx, dictOf (es1 hs tk0 t0) 1) :: (169, oS) :: (lxNews C rest1 n1 t k kp ++ [])))
    (turn : ∀ j word rest n t k P T E items na tv kt ev ke oS R vtop tw h gs tk jj, jj < j → LR jj word (rest.map Prod.fst) n P T E [] T' E' → (AllBare s.gens → AllBare gs) → TabO oS → ArrIs (RowV R) items P → ArrIs (TEv R) tv T → ArrIs EndV ev E → RT R →
      Fr g L h (mr (.str word tw) vtop (.ref C.l) (.ref x) (.ref tl) (.ref el)) → News g L h (rdFix C x dx tl el items na hs tk0 t0 tv kt ev ke oS rest n t k kp R) → WTurnAt w A env test body orelse R' (RInv s C g L x dx tl el hs tk0 t0 kp T' E') j ⟨h, gs, s.drawn, tk, s.os⟩) : codeAny (model P0 w) A (.whileLoop test body orelse env) R' ⟨h, s.gens, s.drawn, tk, s.os⟩ :=
  whileInv (RInv s C g L x dx tl el hs tk0 t0 kp T' E') (fun j s' hI => hI.casesOn (motive := fun s' _ => WTurnAt w A env test body orelse R' (RInv s C g L x dx tl el hs tk0 t0 kp T' E') j s') (turn j)) (kk + 1) (.mk tok rest1 n1 t k [] [] [] #[] 0 #[] 0 #[] 0 oS [] vtop tw h s.gens tk kk (Nat.lt_succ_self _) RR (fun x => x) hTS ArrIs.nil ArrIs.nil ArrIs.nil (fun p hp => nomatch hp) F fun p hp => N p (sel_mem [2, 3, 1, 0, 4] 5 hp))
theorem neR {R : List (Addr × Obj)} {a b : Addr} {o : Obj} (h : ∀ p ∈ R, p.1 ≠ a) (m : (b, o) ∈ R) : @Ne Nat b a := h _ m
theorem rows_push2 {R : List (Addr × Obj)} {c : Addr × Obj} {q5 q6 : Addr} {u1 u2 u3 u4 : Tok} {top word : PySem.Str} {items : Array Value} {P : List PySem.Str} (AP : ArrIs (RowV R) items P) :
    ArrIs (RowV ([(q6, tupO [.str "" u1, .str word u2]), (q5, tupO [.str "" u3, .str top u4]), c] ++ R)) ((items.push (.ref q5)).push (.ref q6)) (P ++ [top, word]) := by
  have a := (AP.mono (RowV.mono (R' := [(q6, tupO [.str "" u1, .str word u2]), (q5, tupO [.str "" u3, .str top u4]), c] ++ R) fun p hp => List.mem_append_right _ hp)).push (⟨q5, u3, u4, rfl, .tail _ (.head _)⟩ : RowV ([(q6, tupO [.str "" u1, .str word u2]), (q5, tupO [.str "" u3, .str top u4]), c] ++ R) (.ref q5) top)
  have b := a.push (⟨q6, u1, u2, rfl, .head _⟩ : RowV ([(q6, tupO [.str "" u1, .str word u2]), (q5, tupO [.str "" u3, .str top u4]), c] ++ R) (.ref q6) word)
  rw [List.append_assoc] at b
  exact b
theorem news_cons {g h : Heap} {L : Addr} {news : List (Addr × Obj)} {p : Addr × Obj} (N : News g L h news) (hp : h.get? p.1 = some p.2 ∧ p.1 ≠ L ∧ g.get? p.1 = none) : News g L h (p :: news) := fun q hq => by
  rcases List.mem_cons.mp hq with rfl | hq
  · exact hp
  · exact N q hq
inductive PopInv (s0 : Shared) (C : LxC) (g : Heap) (L x dx tl el : Addr) (hs : Int) (tk0 t0 tw : Tok) (kp : Nat) (ev : Array Value) (ke : Nat) (oS : Obj) (R : List (Addr × Obj)) (rest : List (Nat × Tok)) (n : Int) (t : Tok) (k : Nat) (gs : Array GenState) (word : PySem.Str) (P1 : List PySem.Str) (T1 : List TE) (top1 : PySem.Str) (j : Nat) : Shared → Prop
  | mk (v : PySem.Str) (P : List PySem.Str) (T : List TE) (items : Array Value) (na : Nat) (tv : Array Value) (kt : Nat) (Tq : Addr) (ta : Tok) (tb : Tok) (h : Heap) (tk : Nat) : P.length < j → PopT word v P T P1 T1 top1 → (Tq, tupO [.str "" ta, .str v tb]) ∈ R → ArrIs (RowV R) items P → ArrIs (TEv R) tv T → Fr g L h (mr (.str word tw) (some (.ref Tq)) (.ref C.l) (.ref x) (.ref tl) (.ref el)) → News g L h (rdFix C x dx tl el items na hs tk0 t0 tv kt ev ke oS rest n t k kp R) → PopInv s0 C g L x dx tl el hs tk0 t0 tw kp ev ke oS R rest n t k gs word P1 T1 top1 j ⟨h, gs, s0.drawn, tk, s0.os⟩
theorem forPop {w : World} {s : Shared} {A : Around} {env : Env} {test : Expr} {body orelse : List Stmt} {Rp : Result → Shared → Prop} {g h : Heap} {L x dx tl el Tq : Addr} {C : LxC} {hs : Int} {tk0 t0 t tw ta tb : Tok} {k kp tk na kt ke : Nat} {R : List (Addr × Obj)} {P P1 : List PySem.Str} {T T1 : List TE} {v top1 word : PySem.Str} {rest : List (Nat × Tok)} {n : Int} {oS : Obj} {items tv ev : Array Value} {gs : Array GenState}
    (PT : PopT word v P T P1 T1 top1) (mq : (Tq, tupO [.str "" ta, .str v tb]) ∈ R) (AP : ArrIs (RowV R) items P) (AT : ArrIs (TEv R) tv T) (F : Fr g L h (mr (.str word tw) (some (.ref Tq)) (.ref C.l) (.ref x) (.ref tl) (.ref el)))
    (N : News g L h (rdFix C x dx tl el items na hs tk0 t0 tv kt ev ke oS rest n t k kp R))
    (turn : ∀ j v P T items na tv kt Tq ta tb h tk, P.length < j → PopT word v P T P1 T1 top1 → (Tq, tupO [.str "" ta, .str v tb]) ∈ R → ArrIs (RowV R) items P → ArrIs (TEv R) tv T → Fr g L h (mr (.str word tw) (some (.ref Tq)) (.ref C.l) (.ref x) (.ref tl) (.ref el)) → News g L h (rdFix C x dx tl el items na hs tk0 t0 tv kt ev ke oS rest n t k kp R) → WTurnAt w A env test body orelse Rp (PopInv s C g L x dx tl el hs tk0 t0 tw kp ev ke oS R rest n t k gs word P1 T1 top1) j ⟨h, gs, s.drawn, tk, s.os⟩) : codeAny (model P0 w) A (.whileLoop test body orelse env) Rp ⟨h, gs, s.drawn, tk, s.os⟩ :=
  whileInv (PopInv s C g L x dx tl el hs tk0 t0 tw kp ev ke oS R rest n t k gs word P1 T1 top1) (fun j s' hI => hI.casesOn (motive := fun s' _ => WTurnAt w A env test body orelse Rp (PopInv s C g L x dx tl el hs tk0 t0 tw kp ev ke oS R rest n t k gs word P1 T1 top1) j s') (turn j)) (P.length + 1) (.mk v P T items na tv kt Tq ta tb h tk (Nat.lt_succ_self _) PT mq AP AT F N)
/-- what the reading leaves -/
structure ReadPost (h h' : Heap) (q : Addr) (T : List TE) (E : List Int) (tl el q2 : Addr) (tv ev : Array Value) (kt ke : Nat) (t2 t3 : Tok) (R : List (Addr × Obj)) : Prop where
  q_ : h'.get? q = some (tupO [.ref tl, .ref el, .ref q2])
  t_ : h'.get? tl = some (listO tv kt)
  e_ : h'.get? el = some (listO ev ke)
  p_ : h'.get? q2 = some (tupO [.str "" t2, .str "" t3])
  qn : h.get? q = none
  tn : h.get? tl = none
  en : h.get? el = none
  pn : h.get? q2 = none
  R_ : ∀ p ∈ R, h'.get? p.1 = some p.2 ∧ h.get? p.1 = none
  T_ : ArrIs (TEv R) tv T
  E_ : ArrIs EndV ev E
noncomputable def popB (word v : PySem.Str) : Bool := decide (collN v word > 0) || ((v == word) && (word != ("^" : PySem.Str)))
theorem popT_inv {word v top : PySem.Str} {P P1 : List PySem.Str} {T T1 : List TE} (PT : PopT word v P T P1 T1 top) : (popB word v = false ∧ P = P1 ∧ T = T1 ∧ v = top) ∨ (popB word v = true ∧ ∃ v1 P', P = P' ++ [v1] ∧ T.length < 1000 ∧ P'.length < 1000 ∧ PopT word v1 P' (T ++ [.sgn v]) P1 T1 top) := by
  induction PT with
  | stop1 a b => exact .inl ⟨by simp only [popB, a, b]; rfl, rfl, rfl, rfl⟩
  | stop2 a b c => exact .inl ⟨by simp only [popB, a, b, c]; rfl, rfl, rfl, rfl⟩
  | pop1 a b c d ih => exact .inr ⟨by simp only [popB, a]; rfl, _, _, rfl, b, c, d⟩
  | pop2 a b c d e f ih => exact .inr ⟨by simp only [popB, a, b, c]; rfl, _, _, rfl, d, e, f⟩
noncomputable def CondN (b0 : Bool) (g : Heap) (L : Addr) (m : PySem.Str → Option Value) (news : List (Addr × Obj)) (gs : Array GenState) (dr : Drawn) (os : OsState) (b : Bool) (s' : Shared) : Prop := b = b0 ∧ ∃ h' tk, s' = ⟨h', gs, dr, tk, os⟩ ∧ Fr g L h' m ∧ News g L h' news
theorem cond_N {w : World} {A : Around} {E : Value → Shared → Prop} {b0 : Bool} {t : Sem Bool} {P : Bool → Shared → Prop} {g h : Heap} {L : Addr} {m : PySem.Str → Option Value} {news : List (Addr × Obj)} {gs : Array GenState} {dr : Drawn} {tk0 : Nat} {os : OsState} (_ : Fr g L h m) (_ : News g L h news)
    (hc : wpAny (model P0 w) A t (CondN b0 g L m news gs dr os) (fun _ _ => False) ⟨h, gs, dr, tk0, os⟩)
    (hm : ∀ h' tk, Fr g L h' m → News g L h' news → P b0 ⟨h', gs, dr, tk, os⟩) : wpAny (model P0 w) A t P E ⟨h, gs, dr, tk0, os⟩ :=
  wpAny_mono hc (fun b s' hb => by obtain ⟨rfl, h', tk, rfl, F, N⟩ := hb; exact hm h' tk F N) fun _ _ e => e.elim
theorem read_again {s0 : Shared} {C : LxC} {g h : Heap} {L x dx tl el : Addr} {hs : Int} {tk0 t0 t1 tw : Tok} {kp jj j : Nat} {T' : List TE} {E' : List Int} {R : List (Addr × Obj)} {tok : PySem.Str} {rest1 : List (Nat × Tok)} {n1 : Int} {k1 na kt ke tk : Nat} {P : List PySem.Str} {T : List TE} {E : List Int} {items tv ev : Array Value} {oS : Obj} {gs : Array GenState} {vtop : Option Value}
    (hj : jj + 1 < j) (RR : LR jj tok (rest1.map Prod.fst) n1 P T E [] T' E') (hgs : AllBare s0.gens → AllBare gs) (hTS : TabO oS) (hR : RT R) (AP : ArrIs (RowV R) items P) (AT : ArrIs (TEv R) tv T) (AE : ArrIs EndV ev E)
    (F : Fr g L h (mr (.str tok tw) vtop (.ref C.l) (.ref x) (.ref tl) (.ref el))) (N : News g L h (rdFix C x dx tl el items na hs tk0 t0 tv kt ev ke oS rest1 n1 t1 k1 kp R)) : Again (RInv s0 C g L x dx tl el hs tk0 t0 kp T' E') j ⟨h, gs, s0.drawn, tk, s0.os⟩ :=
  ⟨jj + 1, hj, .mk tok rest1 n1 t1 k1 P T E items na tv kt ev ke oS R vtop tw h gs tk jj (Nat.lt_succ_self _) RR hgs hTS AP AT AE hR F N⟩
theorem pop_again {s : Shared} {g h : Heap} {L x dx tl el Tq : Addr} {C : LxC} {hs : Int} {tk0 t0 t tw ta tb : Tok} {k kp tk na kt ke j : Nat} {R : List (Addr × Obj)} {P P1 : List PySem.Str} {T T1 : List TE} {v top1 word : PySem.Str} {items tv ev : Array Value} {oS : Obj} {rest : List (Nat × Tok)} {n : Int} {gs : Array GenState} {p : Addr × Obj}
    (hj : P.length + 1 < j) (PT : PopT word v P T P1 T1 top1) (mq : (Tq, tupO [.str "" ta, .str v tb]) ∈ R) (AP : ArrIs (RowV R) items P) (AT : ArrIs (TEv R) tv T) (F : Fr g L h (mr (.str word tw) (some (.ref Tq)) (.ref C.l) (.ref x) (.ref tl) (.ref el)))
    (N : News g L h (p :: rdFix C x dx tl el items na hs tk0 t0 tv kt ev ke oS rest n t k kp R)) : Again (PopInv s C g L x dx tl el hs tk0 t0 tw kp ev ke oS R rest n t k gs word P1 T1 top1) j ⟨h, gs, s.drawn, tk, s.os⟩ :=
  ⟨P.length + 1, hj, .mk v P T items na tv kt Tq ta tb h tk (Nat.lt_succ_self _) PT mq AP AT F fun p hp => N p (.tail _ hp)⟩
theorem LR.inv {k : Nat} {word : PySem.Str} {r : List Nat} {n : Int} {P P' : List PySem.Str} {T T' : List TE} {E E' : List Int} {G : Prop} (H : LR k word r n P T E P' T' E') (h1 : word = "" → P = P' → T = T' → E = E' → G)
    (h2 : ∀ j tok r1 n1 P1 T1, k = j + 1 → word.length < 1000 → T.length < 1000 → P.length < 1000 → (word != ("" : PySem.Str)) = true → StepR word P T P1 T1 → r.length ≤ sizeLine → TokR r n tok r1 n1 → E.length < 1000 → LR j tok r1 n1 P1 T1 (E ++ [n]) P' T' E' → G) : G := by
  induction H with
  | fin => exact h1 rfl rfl rfl rfl
  | step a b c d e f g h i ih => exact h2 _ _ _ _ _ _ rfl a b c d e f g h i
theorem StepR.inv {word : PySem.Str} {P P1 : List PySem.Str} {T T1 : List TE} {G : Prop} (H : StepR word P T P1 T1)
    (h1 : ∀ n R p0 p1 p2 p3 p4, S229 word = true → Is229 word n R p0 p1 p2 p3 p4 → word.length < 1000 → Small (rowsOf P) → P = P1 → T ++ [.port (catAll (rowsOf P)) n] = T1 → G)
    (h2 : ∀ d, S229 word = false → S257 word = true → word.length < 1000 → (Txt.slice word none (some 3) != ("257" : PySem.Str)) = false → (Txt.slice word (some 3) (some 5) != (" \"" : PySem.Str)) = false → (5 : Int) ≤ word.length → P257 word 5 "" d → Small (rowsOf P) → P = P1 → T ++ [.name (catAll (rowsOf P)) d] = T1 → G)
    (h3 : S229 word = false → S257 word = false → (word == ("(" : PySem.Str)) = true → P ++ [word] = P1 → T = T1 → G)
    (h4 : ∀ P0 v P' top, P = P0 ++ [v] → S229 word = false → S257 word = false → (word == ("(" : PySem.Str)) = false → PopT word v P0 T P' T1 top → ((word != (")" : PySem.Str)) = false → P' = P1) → ((word != (")" : PySem.Str)) = true → P'.length < 1000 ∧ P' ++ [top, word] = P1) → G) : G := by
  induction H with
  | port a b c d e => exact h1 _ _ _ _ _ _ _ a b c d rfl rfl
  | name a b c d e f g h i => exact h2 _ a b c d e f g h rfl rfl
  | lp a b c d => exact h3 a b c rfl rfl
  | close a b c d e f => exact h4 _ _ _ _ rfl a b c e (fun _ => rfl) fun q => (by rw [f] at q; cases q)
  | sign a b c d e f g => exact h4 _ _ _ _ rfl a b c e (fun q => by rw [f] at q; cases q) fun _ => ⟨g, rfl⟩
theorem pop_inv2 {word v top : PySem.Str} {P P1 : List PySem.Str} {T T1 : List TE} {G : Prop} (PT : PopT word v P T P1 T1 top) (h1 : popB word v = false → P = P1 → T = T1 → v = top → G) (h2 : ∀ v1 P', popB word v = true → P = P' ++ [v1] → T.length < 1000 → P'.length < 1000 → PopT word v1 P' (T ++ [.sgn v]) P1 T1 top → G) : G := by
  rcases popT_inv PT with ⟨a, b, c, d⟩ | ⟨a, v1, P', b, c, d, e⟩
  · exact h1 a b c d
  · exact h2 v1 P' a b c d e
theorem row_pop {R : List (Addr × Obj)} {items : Array Value} {P : List PySem.Str} {v : PySem.Str} {G : Prop} (AP : ArrIs (RowV R) items (P ++ [v])) (k : ∀ its q ta tb, items = its.push (.ref q) → (q, tupO [.str "" ta, .str v tb]) ∈ R → ArrIs (RowV R) its P → G) : G := by
  obtain ⟨its, val, rfl, ⟨q0, ta0, tb0, rfl, mq0⟩, AP2⟩ := AP.pop
  exact k its q0 ta0 tb0 rfl mq0 AP2
theorem size_le {α : Type} {rel : Value → α → Prop} {a : Array Value} {l : List α} (R : ArrIs rel a l) (h : l.length < 1000) : a.size ≤ sizeLine := by rw [R.size]; exact Nat.le_of_lt (Nat.lt_of_lt_of_le h (by decide))
theorem size_push {α : Type} {rel : Value → α → Prop} {a : Array Value} {l : List α} (R : ArrIs rel a l) (h : l.length < 1000) (v : Value) : (a.push v).size ≤ sizeLine := by rw [Array.size_push, R.size]; exact Nat.le_trans h (by decide)
theorem mem_rot {α : Type} {A B X R : List α} {p : α} (h : p ∈ A ++ (B ++ (X ++ R))) : p ∈ X ++ (A ++ (B ++ R)) := by
  rcases List.mem_append.mp h with h | h
  · exact List.mem_append_right _ (List.mem_append_left _ h)
  · rcases List.mem_append.mp h with h | h
    · exact List.mem_append_right _ (List.mem_append_right _ (List.mem_append_left _ h))
    · rcases List.mem_append.mp h with h | h
      · exact List.mem_append_left _ h
      · exact List.mem_append_right _ (List.mem_append_right _ (List.mem_append_right _ h))
inductive MidR (s0 : Shared) (C : LxC) (g : Heap) (L x dx tl el : Addr) (hs : Int) (tk0 t0 tw : Tok) (kp : Nat) (word : PySem.Str) (P1 : List PySem.Str) (T1 : List TE) (ev : Array Value) (ke : Nat) (rest : List (Nat × Tok)) (n : Int) (t : Tok) (k : Nat) : Flow → Shared → Prop
  | mk (items : Array Value) (na : Nat) (tv : Array Value) (kt : Nat) (oS : Obj) (R : List (Addr × Obj)) (vtop : Option Value) (h : Heap) (gs : Array GenState) (tk : Nat) : (AllBare s0.gens → AllBare gs) → TabO oS → ArrIs (RowV R) items P1 → ArrIs (TEv R) tv T1 → RT R → Fr g L h (mr (.str word tw) vtop (.ref C.l) (.ref x) (.ref tl) (.ref el)) → News g L h (rdFix C x dx tl el items na hs tk0 t0 tv kt ev ke oS rest n t k kp R) → MidR s0 C g L x dx tl el hs tk0 t0 tw kp word P1 T1 ev ke rest n t k .next ⟨h, gs, s0.drawn, tk, s0.os⟩
theorem midR_intro {s0 : Shared} {C : LxC} {g h : Heap} {L x dx tl el : Addr} {hs : Int} {tk0 t0 t tw : Tok} {kp k na kt ke tk : Nat} {word : PySem.Str} {P1 : List PySem.Str} {T1 : List TE} {items tv ev : Array Value} {rest : List (Nat × Tok)} {n : Int} {ex R : List (Addr × Obj)} {gs : Array GenState} {oS : Obj} {vtop : Option Value}
    (hgs : AllBare s0.gens → AllBare gs) (hTS : TabO oS) (hex : RT ex) (hR : RT R) (AP : ArrIs (RowV (ex ++ R)) items P1) (AT : ArrIs (TEv (ex ++ R)) tv T1) (F : Fr g L h (mr (.str word tw) vtop (.ref C.l) (.ref x) (.ref tl) (.ref el)))
    (N : News g L h (ex ++ ((x, accO dx items na) :: (dx, dictOf (es1 hs tk0 t0) 1) :: (tl, listO tv kt) :: (el, listO ev ke) :: (169, oS) :: (lxNews C rest n t k kp ++ R)))) : MidR s0 C g L x dx tl el hs tk0 t0 tw kp word P1 T1 ev ke rest n t k .next ⟨h, gs, s0.drawn, tk, s0.os⟩ :=
  .mk items na tv kt oS (ex ++ R) vtop h gs tk hgs hTS AP AT (fun p hp => (List.mem_append.mp hp).elim (hex p) (hR p)) F fun p hp => N p (mem_rot (A := [_, _, _, _, _]) (B := lxNews C rest n t k kp) hp)
theorem mono_mid {w : World} {A : Around} {s0 : Shared} {C : LxC} {g h : Heap} {L x dx tl el : Addr} {hs : Int} {tk0 t0 t tw : Tok} {kp k na kt ke tk : Nat} {word : PySem.Str} {P P1 : List PySem.Str} {T T1 : List TE} {items tv ev : Array Value} {rest : List (Nat × Tok)} {n : Int} {R : List (Addr × Obj)} {gs : Array GenState} {oS : Obj} {vtop : Option Value} {st : Stmt} {env : Env} {Q1 : Flow → Shared → Prop} {E : Value → Shared → Prop}
    (_ : StepR word P T P1 T1) (_ : Fr g L h (mr (.str word tw) vtop (.ref C.l) (.ref x) (.ref tl) (.ref el))) (_ : News g L h (rdFix C x dx tl el items na hs tk0 t0 tv kt ev ke oS rest n t k kp R))
    (h1 : wpAny (model P0 w) A (exec st env) (MidR s0 C g L x dx tl el hs tk0 t0 tw kp word P1 T1 ev ke rest n t k) (fun _ _ => False) ⟨h, gs, s0.drawn, tk, s0.os⟩)
    (h2 : ∀ items na tv kt oS R vtop h gs tk, (AllBare s0.gens → AllBare gs) → TabO oS → ArrIs (RowV R) items P1 → ArrIs (TEv R) tv T1 → RT R → Fr g L h (mr (.str word tw) vtop (.ref C.l) (.ref x) (.ref tl) (.ref el)) → News g L h (rdFix C x dx tl el items na hs tk0 t0 tv kt ev ke oS rest n t k kp R) → Q1 .next ⟨h, gs, s0.drawn, tk, s0.os⟩) : wpAny (model P0 w) A (exec st env) Q1 E ⟨h, gs, s0.drawn, tk, s0.os⟩ :=
  wpAny_mono h1 (fun _ _ hM => hM.casesOn (motive := fun f s' _ => Q1 f s') h2) fun _ _ e => e.elim
theorem kw_D5_4 : True := by
  k_with "exec If" => (k_here; refine stopIf (by with_reducible assumption) ?_)
  trivial
section
variable {w : World} {s : Shared} {C : LxC} {rest : List (Nat × Tok)} {n : Int} {Q E : Value → Shared → Prop}
theorem read_spec {rest0 : List (Nat × Tok)} {n0 : Int} {tok : PySem.Str} {r1 : List Nat} {n1 : Int} {kk kp : Nat} {T' : List TE} {E' : List Int} {oS0 : Obj} (K : LxK w.params C) (X : Lx w.params s.heap C rest0 n0) (hpb : s.heap.get? C.pb = some (listO #[] kp)) (h169 : s.heap.get? 169 = some oS0) (hTS0 : TabO oS0) (G : Gd w s.heap (169 :: own9 C)) (hz : rest0.length ≤ sizeLine)
    (h0 : @LE.le Nat _ 343 C.c) (T0 : TokR (rest0.map Prod.fst) n0 tok r1 n1) (RR : LR kk tok r1 n1 [] [] [] [] T' E')
    (hQ : ∀ h' gs tk q tl el q2 tv ev kt ke t2 t3 R, KeepsBut [C.dl, C.sg, 169] s.heap h' → Tb h' 169 → (AllBare s.gens → AllBare gs) → ReadPost s.heap h' q T' E' tl el q2 tv ev kt ke t2 t3 R → Q (.ref q) { s with heap := h', gens := gs, toks := tk }) :
    wpAny (model P0 w) (At 460 2600) (call (.ref 337) [.ref C.l]) Q E s := by
  obtain ⟨⟨_, x1, x2, x3, _, x5, x6, _, x8, _, _, _, _, _, _, _, _⟩, ⟨k0, x10⟩, t0, x11⟩ := X
  have hn : ∀ q ∈ ((169 : Addr), oS0) :: lxNews C rest0 n0 t0 k0 kp, s.heap.get? q.1 = some q.2 := by
    refine mem_all10 ?_ ?_ ?_ ?_ ?_ ?_ ?_ ?_ ?_ ?_ <;> assumption
  have hn0 := hn
  have K0 := K
  obtain ⟨hl, rd, cf, cc, o1, o2, o3, o4, o5, o6, o7, o8⟩ := K
  dsimp only [lxNews, lxEs] at hn G
  refine wpAny_call ?_
  k_dflt ktr_enter
  k_steps
  unfold Stop
  rename Gnd w s.heap _ _ => GN
  rename Fr _ _ _ _ => F
  rename News _ _ _ _ => N
  refine new0_W GN.bs F N (le_at rfl rfl rfl) (fun h1 x dx tk1 hs tkx t1 F1 N1 l1 ltx lL => ?_)
  have h343 := Nat.lt_of_lt_of_le (Heap.lt_size ((‹(Mine.hd.heap_39 w.params).In _›) 342 _ rfl)) F1.above
  have l1y := l1
  have l1x : ∀ p : Addr × Obj, p ∈ _ → @LT.lt Nat _ p.1 _ := fun p hp => Nat.lt_trans (l1 p hp) ltx
  k_lt l1
  have m1 : @LT.lt Nat _ 169 C.c := Nat.lt_of_lt_of_le (by decide) h0
  have m2 : @LT.lt Nat _ 169 C.sg := Nat.lt_trans m1 o1
  have m3 : @LT.lt Nat _ 169 C.df := Nat.lt_trans m2 o2
  have m4 : @LT.lt Nat _ 169 C.f := Nat.lt_trans m3 o3
  have m5 : @LT.lt Nat _ 169 C.c' := Nat.lt_trans m4 o4
  have m6 : @LT.lt Nat _ 169 C.lam := Nat.lt_trans m5 o5
  have m7 : @LT.lt Nat _ 169 C.dl := Nat.lt_trans m6 o6
  have m8 : @LT.lt Nat _ 169 C.l := Nat.lt_trans m7 o7
  have m9 : @LT.lt Nat _ 169 C.pb := Nat.lt_trans m8 o8
  clear F N
  k_steps
  unfold Stop
  rename Fr _ _ _ _ => F
  rename News _ _ _ _ => N
  refine token_W (ex := [_, _, _, _, _]) (R := []) K0 GN.bs F N (by refine mem_all5 ?_ ?_ ?_ ?_ ?_ <;> constructor <;> k_ne) (fun p hp => nomatch hp) T0 hz (le_at rfl rfl rfl) (fun h2 tk2 u2 rest1 t2 k2 er F2 N2 => ?_)
  subst er
  clear F N
  k_steps
  unfold Stop
  refine wpAny_While ?_
  rename Fr _ _ _ _ => F
  rename News _ _ _ _ => N
  have F3 := fr_mr (top := none) F rfl rfl rfl rfl rfl rfl (fun y a b c d e f => by simp [mr, a, b, c, d, e, f])
  refine forRead RR hTS0 F3 N ?_
  clear F F3 N RR T0
  intro j word rest n t k P T E items na tv kt ev ke oS R vtop tw h gs tk jj hj RR hgs hTS AP AT AE hR F N
  have S : Sep x dx := ⟨by omega, by omega, by omega, by omega, by omega, by omega⟩
  have hRT := hR
  replace hR := rne_of K0 hTS N hR
  have hRh : ∀ p ∈ R, h.get? p.1 = some p.2 := fun p hp => (N p (List.mem_append_right [_, _, _, _, _] (List.mem_append_right (lxNews C rest n t k kp) hp))).1
  have hRx := hR.at (a := x) (by simp)
  have hRtl := hR.at (List.mem_cons_of_mem _ (List.mem_cons_of_mem _ (.head _)))
  have hRel := hR.at (List.mem_cons_of_mem _ (List.mem_cons_of_mem _ (List.mem_cons_of_mem _ (.head _))))
  have hR169 := hR.at (a := 169) (by simp)
  have hRdl := hR.at (a := C.dl) (by simp)
  have hRsg := hR.at (a := C.sg) (by simp)
  have hRdlsg : ∀ p ∈ R, p.1 ≠ C.dl ∧ p.1 ≠ C.sg := fun p hp => ⟨hRdl p hp, hRsg p hp⟩
  have hTx := lxR_ne (rest := rest) (n := n) (t := t) (k := k) (kp := kp) (mem_all9 (by k_ne) (by k_ne) (by k_ne) (by k_ne) (by k_ne) (by k_ne) (by k_ne) (by k_ne) (by k_ne)) hRx
  have hTtl := lxR_ne (rest := rest) (n := n) (t := t) (k := k) (kp := kp) (mem_all9 (by k_ne) (by k_ne) (by k_ne) (by k_ne) (by k_ne) (by k_ne) (by k_ne) (by k_ne) (by k_ne)) hRtl
  have hTel := lxR_ne (rest := rest) (n := n) (t := t) (k := k) (kp := kp) (mem_all9 (by k_ne) (by k_ne) (by k_ne) (by k_ne) (by k_ne) (by k_ne) (by k_ne) (by k_ne) (by k_ne)) hRel
  have hT169 := lxR_ne (rest := rest) (n := n) (t := t) (k := k) (kp := kp) (mem_all9 (by k_ne) (by k_ne) (by k_ne) (by k_ne) (by k_ne) (by k_ne) (by k_ne) (by k_ne) (by k_ne)) hR169
  dsimp only [rdFix] at N
  refine RR.inv (fun e1 e2 e3 e4 => ?_) (fun jj2 tok2 r2 n2 P1 T1 ejj hw1 hT1 hP1 hw2 ST hz1 TK hE1 R2 => ?_)
  · have hw : (word != ("" : PySem.Str)) = false := by rw [e1]; decide +kernel
    rw [e2] at AP
    rw [e3] at AT
    rw [e4] at AE
    have e5 := AP.nil_inv
    rw [e5] at N
    clear AP RR e1 e2 e3 e4 e5
    k_steps
    unfold Stop
    rename Fr _ _ _ _ => F
    rename News _ _ _ _ => N
    refine pop0_W S GN.bs F N (by k_mem) (by k_mem) (le_at rfl rfl rfl) (fun h2 q2 t2 t3 tk2 F2 k2 nq eq => ?_)
    have N2 := news_add F (news_keeps N k2) nq eq
    have lq2 := ne_new N nq
    clear F N
    k_steps
    rename Fr _ _ _ _ => F
    rename News _ _ _ _ => N
    have nin : ∀ a : Addr, @Ne Nat a 169 → @Ne Nat a C.l → @Ne Nat a C.dl → @Ne Nat a C.f → @Ne Nat a C.df → @Ne Nat a C.lam → @Ne Nat a C.c' → @Ne Nat a C.c → @Ne Nat a C.sg → @Ne Nat a C.pb → a ∉ (((169 : Addr), oS0) :: lxNews C rest0 n0 t0 k0 kp).map Prod.fst := by
      intro a h1 h2 h3 h4 h5 h6 h7 h8 h9 h10 hm
      simp only [List.map_cons, List.map_nil, List.mem_cons, List.not_mem_nil, or_false] at hm
      rcases hm with e | e | e | e | e | e | e | e | e | e <;> exact absurd e (by assumption)
    have zq := N (_, tupO [.ref _, .ref _, .ref q2]) (.head _)
    have zt := N (_, listO tv kt) (by k_mem)
    have ze := N (_, listO ev ke) (by k_mem)
    have zp := N (q2, tupO [.str "" t2, .str "" t3]) (by k_mem)
    refine hQ _ _ _ _ _ _ _ _ _ _ _ _ _ R (gnd_but GN F.keep ?_) ⟨oS, (N ((169 : Addr), oS) (by k_mem)).1, hTS⟩ hgs
      ⟨zq.1, zt.1, ze.1, zp.1, GN.fresh _ zq.2.2 (nin _ (by k_ne) (by k_ne) (by k_ne) (by k_ne) (by k_ne) (by k_ne) (by k_ne) (by k_ne) (by k_ne) (by k_ne)), GN.fresh _ zt.2.2 (nin _ (by k_ne) (by k_ne) (by k_ne) (by k_ne) (by k_ne) (by k_ne) (by k_ne) (by k_ne) (by k_ne) (by k_ne)), GN.fresh _ ze.2.2 (nin _ (by k_ne) (by k_ne) (by k_ne) (by k_ne) (by k_ne) (by k_ne) (by k_ne) (by k_ne) (by k_ne) (by k_ne)), GN.fresh _ zp.2.2 (nin _ (by k_ne) (by k_ne) (by k_ne) (by k_ne) (by k_ne) (by k_ne) (by k_ne) (by k_ne) (by k_ne) (by k_ne)),
       fun p hp => ?_, AT, AE⟩
    rotate_left
    · have z := N p (List.mem_append_right [_, _, _, _, _, _, _] (List.mem_append_right (lxNews C rest n t k kp) hp))
      have d := hR p hp
      exact ⟨z.1, GN.fresh _ z.2.2 (nin _ (d _ (by simp)) (d _ (by simp)) (d _ (by simp)) (d _ (by simp)) (d _ (by simp)) (d _ (by simp)) (d _ (by simp)) (d _ (by simp)) (d _ (by simp)) (d _ (by simp)))⟩
    intro p hp
    have hp' : p ∈ ((169 : Addr), oS0) :: lxNews C rest0 n0 t0 k0 kp := hp
    have z := hn0 p hp'
    simp only [List.mem_cons, List.not_mem_nil, or_false] at hp'
    rcases hp' with rfl | rfl | rfl | rfl | rfl | rfl | rfl | rfl | rfl | rfl
    · exact .inl (by simp)
    · exact .inr ⟨z, (N (C.l, _) (by k_mem)).1⟩
    · exact .inl (by simp)
    · exact .inr ⟨z, (N (C.f, _) (by k_mem)).1⟩
    · exact .inr ⟨z, (N (C.df, _) (by k_mem)).1⟩
    · exact .inr ⟨z, (N (C.lam, _) (by k_mem)).1⟩
    · exact .inr ⟨z, (N (C.c', _) (by k_mem)).1⟩
    · exact .inr ⟨z, (N (C.c, _) (by k_mem)).1⟩
    · exact .inl (by simp)
    · exact .inr ⟨z, (N (C.pb, _) (by k_mem)).1⟩
  · have hez : ev.size ≤ sizeLine := size_le AE hE1
    rw [ejj] at hj
    clear RR ejj
    have isOn : IfStop := trivial
    k_steps
    unfold Stop
    rename Fr _ _ _ _ => F
    rename News _ _ _ _ => N
    refine mono_mid (s0 := s) ST F N ?_ ?_
    · clear isOn hez hE1 TK R2 hz1 hQ
      have htz : tv.size ≤ sizeLine := size_le AT hT1
      have hiz : items.size ≤ sizeLine := size_le AP hP1
      refine ST.inv (fun n9 R9 p0 p1 p2 p3 p4 s1 H w3 sm eP eT => ?_) (fun d9 s1 s2 w3 q1 q2 q3 PP sm eP eT => ?_) (fun s1 s2 s3 eP eT => ?_) (fun P0 v0 P9 top9 eP0 s1 s2 s3 PT hc hs => ?_)
      · clear ST
        k_steps
        unfold Stop
        rename Fr _ _ _ _ => F
        rename News _ _ _ _ => N
        have hRh1 : ∀ p ∈ R, Heap.get? _ p.1 = some p.2 := fun p hp => (N p (List.mem_append_right [_, _, _, _, _] (List.mem_append_right (lxNews C rest n t k kp) hp))).1
        refine str_W S hTS sm GN.bs F N (by k_mem) (by k_mem) (by k_mem) (rws_of hRh1 AP) (fun T' hT' => by obtain ⟨o, ho⟩ := rows_in AP T' hT'; exact hR169 _ ho) (le_at rfl rfl rfl) (fun h3 gs3 t3 tk3 o3 F3 k3 e3 T3 b3 => ?_)
        have N3 := news_but N (by k_upd) k3 e3
        clear F N
        dsimp only [StrBack]
        k_steps
        unfold Stop
        rename Fr _ _ _ _ => F
        rename News _ _ _ _ => N
        refine p229_W H GN.bs F N (by k_mem) w3 (le_at rfl rfl rfl) (fun h4 q4 t4 t5 tk4 F4 N4 n4 => ?_)
        clear F N
        k_steps
        rename Fr _ _ _ _ => F
        rename News _ _ _ _ => N
        exact midR_intro (ex := [_, _]) (fun z => b3 (hgs z)) T3 (mem_all2 ⟨_, rfl⟩ ⟨_, rfl⟩) hRT (eP ▸ AP.mono (RowV.mono fun p hp => .tail _ (.tail _ hp))) (eT ▸ (AT.mono (TEv.mono fun p hp => .tail _ (.tail _ hp))).push ⟨_, _, _, rfl, .head _⟩) (fr_mr F rfl rfl rfl rfl rfl rfl (fun y a b c d e f => by simp [mr, a, b, c, d, e, f])) N
      · clear ST
        k_steps
        unfold Stop
        rename Fr _ _ _ _ => F
        rename News _ _ _ _ => N
        have hRh1 : ∀ p ∈ R, Heap.get? _ p.1 = some p.2 := fun p hp => (N p (List.mem_append_right [_, _, _, _, _] (List.mem_append_right (lxNews C rest n t k kp) hp))).1
        refine str_W S hTS sm GN.bs F N (by k_mem) (by k_mem) (by k_mem) (rws_of hRh1 AP) (fun T' hT' => by obtain ⟨o, ho⟩ := rows_in AP T' hT'; exact hR169 _ ho) (le_at rfl rfl rfl) (fun h3 gs3 t3 tk3 o3 F3 k3 e3 T3 b3 => ?_)
        have N3 := news_but N (by k_upd) k3 e3
        clear F N
        dsimp only [StrBack]
        k_steps
        unfold Stop
        rename Fr _ _ _ _ => F
        rename News _ _ _ _ => N
        refine p257_W GN.bs F N w3 q1 q2 q3 PP (le_at rfl rfl rfl) (fun h4 tk4 t4 F4 N4 => ?_)
        clear F N
        k_steps
        rename Fr _ _ _ _ => F
        rename News _ _ _ _ => N
        exact midR_intro (ex := [_]) (fun z => b3 (hgs z)) T3 (all_one ⟨_, rfl⟩) hRT (eP ▸ AP.mono (RowV.mono fun p hp => .tail _ hp)) (eT ▸ (AT.mono (TEv.mono fun p hp => .tail _ hp)).push ⟨_, _, _, rfl, .head _⟩) (fr_mr F rfl rfl rfl rfl rfl rfl (fun y a b c d e f => by simp [mr, a, b, c, d, e, f])) N
      · clear ST
        k_steps
        unfold Stop
        rename Fr _ _ _ _ => F
        rename News _ _ _ _ => N
        refine push_W S GN.bs F N (by k_mem) (by k_mem) hiz (le_at rfl rfl rfl) (fun h_3 q3 tk3 F3 k3 e3 f3 nq3 => ?_)
        have N3 := news_add F (news_but N (by k_upd) k3 e3) nq3 f3
        have l3 := ne_new N nq3
        clear F N
        k_steps
        rename Fr _ _ _ _ => F
        rename News _ _ _ _ => N
        exact midR_intro (ex := [_]) hgs hTS (all_one ⟨_, rfl⟩) hRT (eP ▸ (AP.mono (RowV.mono fun p hp => .tail _ hp)).push ⟨_, _, _, rfl, .head _⟩) (eT ▸ AT.mono (TEv.mono fun p hp => .tail _ hp)) (fr_mr F rfl rfl rfl rfl rfl rfl (fun y a b c d e f => by simp [mr, a, b, c, d, e, f])) N
      · clear ST
        rw [eP0] at AP
        clear eP0
        refine row_pop AP (fun its q0 ta0 tb0 ei mq0 AP2 => ?_)
        rename News _ _ _ _ => N
        rw [ei] at hiz N
        clear AP ei
        k_steps
        unfold Stop
        rename Fr _ _ _ _ => F
        rename News _ _ _ _ => N
        refine pop_W S GN.bs F N (by k_mem) (by k_mem) hiz (le_at rfl rfl rfl) (fun h2 tk2 F2 k2 e2 => ?_)
        have N2 := news_but N (by k_upd) k2 e2
        clear F N
        k_steps
        unfold Stop
        refine wpAny_While ?_
        rename Fr _ _ _ _ => F
        rename News _ _ _ _ => N
        refine forPop PT mq0 AP2 AT (fr_mr F rfl rfl rfl rfl rfl rfl (fun y a b c d e f => by simp [mr, a, b, c, d, e, f])) N ?_
        clear F N hiz htz hRh AP2 AT mq0 PT
        intro j3 v3 P3 T3 items3 na3 tv3 kt3 q3 ta3 tb3 h3 tk3 hj3 PT mq AP3 AT3 F N0
        have N := news_cons N0 ((N0 _ (List.mem_append_right [_, _, _, _, _] (List.mem_append_right (lxNews C rest n t k kp) mq))))
        clear N0
        have nq1 := neR hRx mq
        have nq2 := neR hRtl mq
        have nq3 := neR hRel mq
        have nq4 := neR hRdl mq
        have nq5 := neR hRsg mq
        dsimp only [rdFix] at N
        refine cond_N (b0 := popB word v3) F N ?_ (fun h5 tk5 F5 N5 => ?_)
        · k_steps
          unfold Stop
          rename Fr _ _ _ _ => F
          rename News _ _ _ _ => N
          refine strcoll_W GN.bs F N (le_at rfl rfl rfl) (fun h4 tk4 t4 F4 N4 => ?_)
          clear F N
          cases d1 : decide (collN v3 word > 0)
          · cases d2 : (v3 == word)
            · k_steps
              rename Fr _ _ _ _ => F
              rename News _ _ _ _ => N
              exact ⟨by simp only [popB, d1, d2]; rfl, _, _, rfl, F, N⟩
            · cases d3 : (word != ("^" : PySem.Str))
              · k_steps
                rename Fr _ _ _ _ => F
                rename News _ _ _ _ => N
                exact ⟨by simp only [popB, d1, d2, d3]; rfl, _, _, rfl, F, N⟩
              · k_steps
                rename Fr _ _ _ _ => F
                rename News _ _ _ _ => N
                exact ⟨by simp only [popB, d1, d2, d3]; rfl, _, _, rfl, F, N⟩
          · k_steps
            rename Fr _ _ _ _ => F
            rename News _ _ _ _ => N
            exact ⟨by simp only [popB, d1]; rfl, _, _, rfl, F, N⟩
        clear F N
        refine pop_inv2 PT (fun hb e1 e2 e3 => ?_) (fun v1 P3' hb e1 c3 c4 PT2 => ?_)
        · rw [hb]
          rw [e1] at AP3
          rw [e2] at AT3
          clear e1 e2 PT
          cases hw : (word != (")" : PySem.Str))
          · k_steps
            rename Fr _ _ _ _ => F
            rename News _ _ _ _ => N
            rw [hc hw] at AP3
            exact midR_intro (ex := [_]) hgs hTS (all_one ⟨_, rfl⟩) hRT (AP3.mono (RowV.mono fun p hp => .tail _ hp)) (AT3.mono (TEv.mono fun p hp => .tail _ hp)) (fr_mr F rfl rfl rfl rfl rfl rfl (fun y a b c d e f => by simp [mr, a, b, c, d, e, f])) N
          · obtain ⟨p4, eP⟩ := hs hw
            have hi3 : items3.size ≤ sizeLine := size_le AP3 p4
            k_steps
            unfold Stop
            rename Fr _ _ _ _ => F
            rename News _ _ _ _ => N
            refine push_W S GN.bs F N (by k_mem) (by k_mem) hi3 (le_at rfl rfl rfl) (fun h5 q5 tk5 F5 k5 e5 f5 nq5 => ?_)
            have N5 := news_add F (news_but N (by k_upd) k5 e5) nq5 f5
            have l5 := ne_new N nq5
            clear F N
            k_steps
            unfold Stop
            rename Fr _ _ _ _ => F
            rename News _ _ _ _ => N
            refine push_W S GN.bs F N (by k_mem) (by k_mem) (size_push AP3 p4 _) (le_at rfl rfl rfl) (fun h6 q6 tk6 F6 k6 e6 f6 nq6 => ?_)
            have N6 := news_add F (news_but N (by k_upd) k6 e6) nq6 f6
            have l6 := ne_new N nq6
            clear F N
            k_steps
            rename Fr _ _ _ _ => F
            rename News _ _ _ _ => N
            exact midR_intro (ex := [_, _, _]) hgs hTS (mem_all3 ⟨_, rfl⟩ ⟨_, rfl⟩ ⟨_, rfl⟩) hRT (eP ▸ e3 ▸ rows_push2 AP3) (AT3.mono (TEv.mono fun p hp => .tail _ (.tail _ (.tail _ hp)))) (fr_mr F rfl rfl rfl rfl rfl rfl (fun y a b c d e f => by simp [mr, a, b, c, d, e, f])) N
        · rw [hb]
          rw [e1] at AP3 hj3
          rw [List.length_append] at hj3
          refine row_pop AP3 (fun its4 q4 ta4 tb4 ei mq2 AP4 => ?_)
          rename News _ _ _ _ => N
          rw [ei] at N
          have hi3 : (its4.push (.ref q4)).size ≤ sizeLine := size_push AP4 c4 _
          have htz : tv3.size ≤ sizeLine := size_le AT3 c3
          clear AP3 e1 ei PT
          k_steps
          unfold Stop
          rename Fr _ _ _ _ => F
          rename News _ _ _ _ => N
          refine pop_W S GN.bs F N (by k_mem) (by k_mem) hi3 (le_at rfl rfl rfl) (fun h7 tk7 F7 k7 e7 => ?_)
          have N7 := news_but N (by k_upd) k7 e7
          clear F N
          k_steps
          show Again _ _ _
          rename Fr _ _ _ _ => F
          rename News _ _ _ _ => N
          exact pop_again hj3 PT2 mq2 AP4 (AT3.push ⟨_, rfl⟩) (fr_mr F rfl rfl rfl rfl rfl rfl (fun y a b c d e f => by simp [mr, a, b, c, d, e, f])) N
    · clear isOn hez F N hRdlsg hRdl hRsg hR169 hRel hRtl hRx hRh hR hRT AP AT hTS hgs ST
      intro items na tv kt oS R vtop h gs tk hgs hTS AP AT hRT F N
      have hR := rne_of K0 hTS N hRT
      have hRdlsg : ∀ p ∈ R, p.1 ≠ C.dl ∧ p.1 ≠ C.sg := fun p hp => ⟨hR p hp _ (by simp), hR p hp _ (by simp)⟩
      dsimp only [rdFix] at N
      k_steps
      unfold Stop
      rename Fr _ _ _ _ => F
      rename News _ _ _ _ => N
      refine token_W (ex := [_, _, _, _, _]) (R := R) K0 GN.bs F N (by refine mem_all5 ?_ ?_ ?_ ?_ ?_ <;> constructor <;> k_ne) hRdlsg TK (by rw [List.length_map] at hz1; exact hz1) (le_at rfl rfl rfl) (fun h9 tk9 u9 rest9 t9 k9 er9 F9 N9 => ?_)
      subst er9
      clear F N
      k_steps
      show Again _ _ _
      rename Fr _ _ _ _ => F
      rename News _ _ _ _ => N
      exact read_again hj R2 hgs hTS hRT AP AT (AE.push ⟨_, rfl⟩) (fr_mr F rfl rfl rfl rfl rfl rfl (fun y a b c d e f => by simp [mr, a, b, c, d, e, f])) N
end
end
section
open PySem PySem.W PyProof.Rows PySem.Spec PySem.Calls Builtin Builtin.Str
section
variable {prog : Program} {w : World} {A : Around} {E : Value → Shared → Prop} {s : Shared} {x : PySem.Str} {t u : Tok} {Q : Value → Shared → Prop}
theorem ite_both {c : Bool} {a b : Prop} (h1 : c = true → a) (h2 : c = false → b) : if c = true then a else b := by
  cases c
  · rw [if_neg (by decide)]; exact h2 rfl
  · rw [if_pos rfl]; exact h1 rfl
theorem post_t {c : Prop} [Decidable c] {y z : PySem.Str} {t : Tok} (hz : ¬ c → z.length ≤ sizeLine)
    (h : ∀ t' k, s.toks ≤ k → Q (.str (if c then y else z) t') { s with toks := k }) : (if c then Made.val (.str y t) else Made.str z).post Q s := by
  by_cases hc : c
  · rw [if_pos hc]; have h' := h t s.toks (Nat.le_refl _); rw [if_pos hc] at h'; exact h'
  · rw [if_neg hc]; have h' := h s.toks (s.toks + 1) (Nat.le_succ _); rw [if_neg hc] at h'; exact ⟨hz hc, h'⟩
theorem mul_int_str {n : Int} (hok : MulOk x n) (h : ∀ t' k, s.toks ≤ k → Q (.str (Txt.mul x n) t') { s with toks := k }) : wpAny (model prog w) A (binaryOp .Mult (.int n u) (.str x t)) Q E s := by
  refine lm_binaryOp_repeat_right (T := "str") (U := "int") (id := "str.__mul__") (by decide) (fun s' => typeIs_int s' n u) (typeIs_str s x t) F.fills_int_mul noFill_str_mul F.slot_int_mul lm_noRepeat_int repeat_str F.slot_int_index.lookup
    (call_gives F.slot_int_mul (typeIs_int s n u) F.entry_int_mul (F.args_int_mul_2 _ _) (AutoIntG3.int___mul___int_str_0 n u x t) ⟨rfl, typeIs_str _ _ _, call_gives F.slot_str_mul (typeIs_str s x t) F.entry_str_mul (F.args_str_mul_2 _ _) (gives_str_mul x n t u hok.1 hok.2.1 hok.2.2) ?_⟩)
  unfold Txt.mul at h
  by_cases h1 : n < 1
  · rw [if_pos h1]; have h' := h s.toks (s.toks + 1) (Nat.le_succ _); rw [if_pos h1] at h'; exact ⟨by decide, h'⟩
  · rw [if_neg h1]; refine post_t (fun hc => fits_reps (hok.2.2 h1 (by simpa using hc))) fun t' k hk => ?_
    have h' := h t' k hk; rw [if_neg h1] at h'; exact h'
theorem add_t {y : PySem.Str} {u : Tok} (h : ∀ t' k, s.toks ≤ k → Q (.str (x ++ y) t') { s with toks := k }) (hsz : x.length + y.length ≤ sizeLine) : wpAny (model prog w) A (binaryOp .Add (.str x t) (.str y u)) Q E s := by
  refine P.add_str ?_
  by_cases hx : (x.length == 0) = true
  · rw [if_pos hx]; have h' := h u s.toks (Nat.le_refl _); rw [Str.append_left_empty hx] at h'; exact h'
  · rw [if_neg hx]
    by_cases hy : (y.length == 0) = true
    · rw [if_pos hy]; have h' := h t s.toks (Nat.le_refl _); rw [Str.append_right_empty hy] at h'; exact h'
    · rw [if_neg hy]; exact ⟨by rw [Str_len]; exact hsz, h _ _ (Nat.le_succ _)⟩
theorem repl_t {y z : PySem.Str} {u v : Tok} (hu : u ≠ 0) (hv : v ≠ 0) (huv : u ≠ v) (hyz : (y == z) = false) (hb : x.length ≤ 1000) (hz : z.length ≤ 14)
    (hq : ∀ t' k, s.toks ≤ k → Q (.str (Txt.replace x y z) t') { s with toks := k }) : wpAny (model prog w) A (call (.builtin "str.replace") [.str x t, .str y u, .str z v]) Q E s := by
  have h1 : (x.length + 1) * z.length ≤ (x.length + 1) * 14 := Nat.mul_le_mul_left _ hz
  have hb : x.length + (x.length + 1) * z.length ≤ 16777216 := by omega
  have hl : tooLong (x.length + (occurrences x y 0 x.length (x.length + 1)).length * z.length) = false := by
    have h1 := StrLaws.occ_length_le x y 0 x.length (x.length + 1)
    have h2 : (occurrences x y 0 x.length (x.length + 1)).length * z.length ≤ (x.length + 1) * z.length := Nat.mul_le_mul_right _ h1
    unfold tooLong sizeLine
    exact decide_eq_false (by omega)
  refine call_gives F.slot_str_replace (typeIs_str _ _ _) F.entry_str_replace (F.args_str_replace_3 _ _ _)
    (gives_str_replace x y z t u v fun _ => ⟨by simp [hu, hv], by simp [huv], hyz, hl⟩) ?_
  have hq' := hq
  unfold Txt.replace at hq'
  cases hc : ((occurrences x y 0 x.length (x.length + 1)).isEmpty || (y.length == 0 && z.length == 0))
  · rw [hc] at hq'
    simp only [Bool.false_eq_true, if_false] at hq' ⊢
    exact ⟨fits_replaced y hb, hq' _ _ (Nat.le_succ _)⟩
  · rw [hc] at hq'
    simp only [if_true] at hq' ⊢
    exact hq' t s.toks (Nat.le_refl _)
end
theorem len5 : ("229 (" : PySem.Str).length = 5 := by decide +kernel
theorem len1 : (")" : PySem.Str).length = 1 := by decide +kernel
theorem len1q : ("\"" : PySem.Str).length = 1 := by decide +kernel
/-- the reply with a port -/
noncomputable abbrev rep229 (m v : Int) : PySem.Str := ("229 (" : PySem.Str) ++ Txt.mul (Txt.item "|!\"\\" m) 3 ++ PySem.Str.ofString (toString v) ++ Txt.item "|!\"\\" m ++ (")" : PySem.Str)
noncomputable abbrev hide1 (r : PySem.Str) : PySem.Str := Txt.replace r "\\" "\\\\"
noncomputable abbrev hide (r : PySem.Str) : PySem.Str := Txt.replace (hide1 r) "\"" "\\\""
noncomputable abbrev hide3 (r : PySem.Str) : PySem.Str := Txt.replace (hide r) " " "\\ "
noncomputable def wordOf (x : Int) (r : PySem.Str) : PySem.Str := if ((x.fdiv 2).fmod 2 == 1) = true then ("\"" : PySem.Str) ++ hide r ++ ("\"" : PySem.Str) else hide3 r
noncomputable abbrev mIx (x : Int) : Int := ((x.fdiv 4).fdiv 100).fmod 4
noncomputable abbrev vIx (x : Int) : Int := (x.fdiv 4).fmod 100
end
section
open PySem PySem.W PyProof.Rows PySem.Spec PySem.Calls Builtin Builtin.Str
theorem kw_E2_1 : True := by
  k_with_none
  k_with "execs cons" => ((with_reducible refine seq_cons fun zQ1 ztk zhQ1 => ?_); try dsimp only)
  trivial
theorem len5b : ("257 \"" : PySem.Str).length = 5 := by decide +kernel
noncomputable abbrev rep257 (v : PySem.Str) : PySem.Str := ("257 \"" : PySem.Str) ++ Txt.replace v "\"" "\"\"" ++ ("\"" : PySem.Str)
noncomputable abbrev jIx (x : Int) (k : Nat) : PySem.Str := Txt.item "\"\\ )a" ((((x.fdiv 4).fdiv 3).fdiv (5 ^ (0 + (k : Int)).toNat)).fmod 5)
noncomputable abbrev nam0 : PySem.Str := Txt.join "" []
noncomputable abbrev nam1 (x : Int) : PySem.Str := Txt.join "" [jIx x 0]
noncomputable abbrev nam2 (x : Int) : PySem.Str := Txt.join "" [jIx x 0, jIx x (0 + 1)]
/-- the lengths that the texts of a name keep to -/
structure NamL (v : PySem.Str) : Prop where
  a1 : v.length ≤ 1000
  a2 : (Txt.replace v "\"" "\"\"").length ≤ 800
  a3 : (hide1 (rep257 v)).length ≤ 1000
  a4 : (hide (rep257 v)).length ≤ 1000
theorem fillE2x (w : World) (h : Heap) (X : (Mine.hd.heap_39 w.params).In h) (e : PySem.Challenge.rw_wu0089_01.foot = PySem.Challenge.rw_wu0089_01.foot) : True := by
  revert X e; k_fill; intro _ _; trivial

theorem kw_E2_2 : True := by
  k_with "binaryOp Add str str" => k_dflt ((refine add_t ?_ ?q47a; (case q47a => (have hL : 4000 ≤ sizeLine := (by decide); (simp only [Str_len, len_item, len5, len1, len1q]; omega))); intro zt' zk' zhk'; (try dsimp only at zhk')))
  k_with "ktr_enter" => (refine' enter_fn ?q7a ?q7d ?q7e ?q7f ?q7g ?q7h ?q7i ?_ ?q7j ?q7k ?q7b ?q7c; (case q7g => assumption); (case q7a => assumption); (case q7e => k_is); (case q7f => k_is); (case q7d => decide); (case q7h => first | exact BindsTo.of_eq rfl | exact binds_K (Gd.here (by assumption)).X rfl (by k_is) rfl rfl rfl); (case q7j => decide); (case q7i => exact locs rfl); (case q7k => exact rfl); (case q7b => exact rfl); (case q7c => exact rfl); k_whole; rintro zg' zL' zh' zp' zl' zmean' zmg' zmb' zT' zX' zGN zF' zN' zl1 zK1 zhL'; (try dsimp only); (try k_fold))
  k_with "call ref" => (k_here; (with_reducible show wpAny _ _ (call (Value.ref _) _) _ _ _); refine stop ?_)
  k_with "call type:range" => (k_here; (with_reducible show wpAny _ _ (call _ [Value.int (Int.fmod _ _) _]) _ _ _); refine stop ?_)
  k_with "subscriptTail Constant BinOp str int" => (k_dflt (refine item_str (by assumption) (by assumption) (by assumption) ?_; intro _))
  k_with "binaryOp Mult int str" => (k_dflt (refine mul_int_str (mulOk_of 16 16 (by rw [len_item]; decide) (by decide) (by decide) (by decide) (by decide)) ?_; intro zt' zk' zhk'; (try dsimp only at zhk')))
  k_with "binaryOp Add str str" => k_dflt ((refine add_t ?_ ?q50a; (case q50a => (have hL : 4000 ≤ sizeLine := (by decide); (simp only [Str_len, len_item, len5, len1, len1q, len5b]; omega))); intro zt' zk' zhk'; (try dsimp only at zhk')))
  k_with "call builtin:str.replace" => k_dflt ((refine repl_t ?q51a ?q51b ?q51c ?q51d ?q51e ?q51f ?_; (case q51a => ((show @Ne Nat _ _); (try dsimp only); first | assumption | exact Nat.succ_ne_zero _ | exact Nat.ne_of_lt (Nat.lt_succ_self _) | exact Nat.ne_of_gt (Nat.lt_succ_self _) | exact Nat.ne_of_gt (Nat.lt_of_lt_of_le (Nat.succ_pos _) (by assumption)) | omega)); (case q51b => ((show @Ne Nat _ _); (try dsimp only); first | assumption | exact Nat.succ_ne_zero _ | exact Nat.ne_of_lt (Nat.lt_succ_self _) | exact Nat.ne_of_gt (Nat.lt_succ_self _) | exact Nat.ne_of_gt (Nat.lt_of_lt_of_le (Nat.succ_pos _) (by assumption)) | omega)); (case q51c => ((show @Ne Nat _ _); (try dsimp only); first | assumption | exact Nat.succ_ne_zero _ | exact Nat.ne_of_lt (Nat.lt_succ_self _) | exact Nat.ne_of_gt (Nat.lt_succ_self _) | exact Nat.ne_of_gt (Nat.lt_of_lt_of_le (Nat.succ_pos _) (by assumption)) | omega)); (case q51d => decide +kernel); (case q51e => assumption); (case q51f => decide); intro zt' zk' zhk'; (try dsimp only at zhk')))
  k_with "storeName" => (k_here; k_dflt (first
     | (refine' storeX_L ?q52a ?q52b ?_ ?q52d ?q52e; (case q52a => k_asm); (case q52b => k_asm); (case q52d => rfl); (case q52e => rfl); k_whole; intro zh' zF' zN'; (try dsimp only))
     | (refine' storeX_C ?q52a ?q52b ?q52f ?q52c ?q52g ?_ ?q52d ?q52e; (case q52d => rfl); (case q52e => rfl); (case q52a => k_asm); (case q52b => k_asm); (case q52f => rfl); (case q52c => k_updF); (case q52g => k_asm); k_whole; intro zh' zo' zF' zN' zd'; (try dsimp only at zN'); (try dsimp only))))
  k_with "execs cons" => ((with_reducible refine wpAny_execs_cons ?_); try dsimp only)
  k_with "execs nil" => (refine wpAny_execs_nil ?_)
  k_with "CompSrc" => (k_here; k_dflt ((refine LCg.CompSrc.range (by rfl) (by k_asm) (by k_asm) (by assumption) (by first | decide | rfl) (by first | rfl | decide) (by first | exact Nat.le_of_ble_eq_true rfl | size_fits) ?_; intro zg'; lcg_lit)))
  k_with "CompRest" => (with_unfolding_all first
     | (refine LCg.CompRest.succ ?_; intro zv' zI' zoI' zC' zoC' zD' zm' zh' ztk' zE' zhv' zhC' zhx' zF' zN' zoff' zne'; (obtain ⟨zt9', zhv9'⟩ := zhv'; subst zhv9'); (try simp only [LCg.Off3, and_true] at zoff'))
     | refine LCg.CompRest.zero ?_)
  k_with "ite" => k_dflt (first | refine ite_pos (by assumption) ?_ | refine ite_neg (ne_true_of_eq_false (by assumption)) ?_ | (k_closed; refine ite_neg (by decide) ?_) | (k_closed; refine ite_pos (by decide) ?_) | refine stop ?_)
  trivial
noncomputable abbrev mo (r v x : Value) (ρ : PySem.Str → Option Value) : PySem.Str → Option Value := fun y => if y = "reply" then some r else if y = "value" then some v else if y = "x" then some x else ρ y
theorem fr_mo {g h : Heap} {L : Addr} {m : PySem.Str → Option Value} {r v x : Value} (F : Fr g L h m) (h1 : m "reply" = some r) (h2 : m "value" = some v) (h3 : m "x" = some x) : Fr g L h (mo r v x m) := by
  have : m = mo r v x m := by
    funext y
    unfold mo
    by_cases a : y = "reply"
    · rw [if_pos a, a, h1]
    rw [if_neg a]
    by_cases b : y = "value"
    · rw [if_pos b, b, h2]
    rw [if_neg b]
    by_cases c : y = "x"
    · rw [if_pos c, c, h3]
    rw [if_neg c]
  exact this ▸ F
inductive MidO (s0 : Shared) (g : Heap) (L : Addr) (x : Int) (tx : Tok) (r : PySem.Str) (VV : Value → Prop) : Flow → Shared → Prop
  | mk (vv : Value) (h : Heap) (tk : Nat) (t : Tok) (ρ : PySem.Str → Option Value) (nw : List (Addr × Obj)) : VV vv → @Ne Nat tk 0 → Fr g L h (mo (.str r t) vv (.int x tx) ρ) → News g L h nw → MidO s0 g L x tx r VV .next ⟨h, s0.gens, s0.drawn, tk, s0.os⟩
theorem mono_o {w : World} {A : Around} {s0 : Shared} {g h : Heap} {L : Addr} {x : Int} {tx : Tok} {r : PySem.Str} {m : PySem.Str → Option Value} {tk : Nat} {st : Stmt} {env : Env} {Q1 : Flow → Shared → Prop} {E : Value → Shared → Prop} (VV : Value → Prop) (_ : Fr g L h m)
    (h1 : wpAny (model P0 w) A (exec st env) (MidO s0 g L x tx r VV) (fun _ _ => False) ⟨h, s0.gens, s0.drawn, tk, s0.os⟩)
    (h2 : ∀ vv h tk t ρ nw, VV vv → @Ne Nat tk 0 → Fr g L h (mo (.str r t) vv (.int x tx) ρ) → News g L h nw → Q1 .next ⟨h, s0.gens, s0.drawn, tk, s0.os⟩) : wpAny (model P0 w) A (exec st env) Q1 E ⟨h, s0.gens, s0.drawn, tk, s0.os⟩ :=
  wpAny_mono h1 (fun _ _ hM => hM.casesOn (motive := fun f s' _ => Q1 f s') h2) fun _ _ e => e.elim
/-- which operand it is -/
inductive OpC (x : Int) (r : PySem.Str) (VV : Value → Prop) : Prop
  | even : (x.fmod 2 == 0) = true → fitsSsize (mIx x) = true → -(("|!\"\\" : PySem.Str).length : Int) ≤ mIx x → mIx x < (("|!\"\\" : PySem.Str).length : Int) → (Txt.mul (Txt.item "|!\"\\" (mIx x)) 3).length ≤ 3 → (PySem.Str.ofString (toString (vIx x))).length ≤ 3 → rep229 (mIx x) (vIx x) = r → (∀ t, VV (.int (vIx x) t)) → OpC x r VV
  | odd (v : PySem.Str) : (x.fmod 2 == 0) = false → v.length ≤ 1000 → (Txt.replace v "\"" "\"\"").length ≤ 800 → rep257 v = r → (∀ t, VV (.str v t)) → ((x.fdiv 4).fmod 3 = 0 ∧ v = nam0) ∨ ((x.fdiv 4).fmod 3 = 1 ∧ v = nam1 x) ∨ ((x.fdiv 4).fmod 3 = 2 ∧ v = nam2 x) → OpC x r VV
theorem kw_E2_3 : True := by
  k_with "exec If" => (k_here; refine stopIf (by with_reducible assumption) ?_)
  trivial
section
variable {w : World} {s : Shared} {x : Int} {tx : Tok} {Q E : Value → Shared → Prop}
theorem operand_core {r : PySem.Str} {VV : Value → Prop} (G : Gd w s.heap []) (h0 : 0 ≤ x) (h1 : x < 1000000) (HC : OpC x r VV) (l0' : r.length ≤ 1000) (l3' : (hide1 r).length ≤ 1000) (l4' : (hide r).length ≤ 1000)
    (hQ : ∀ h' q t1 vv tk, VV vv → Keeps s.heap h' → h'.get? q = some (tupO [.str (wordOf x r) t1, vv]) → s.heap.get? q = none → Q (.ref q) { s with heap := h', toks := tk }) :
    wpAny (model P0 w) (At 460 2600) (call (.ref 316) [.int x tx]) Q E s := by
  have hn : ∀ q ∈ ([] : List (Addr × Obj)), s.heap.get? q.1 = some q.2 := fun q hq => nomatch hq
  refine wpAny_call ?_
  refine enter_cells (cs := fun L => [("q", L + 1)]) (binds := [("x", .int x tx)]) (news := []) (fun L => rfl) G (by decide) (by k_is) (by k_is) hn (BindsTo.of_eq rfl) rfl (by decide +kernel) ?_ rfl rfl rfl
  rintro g L h1 tk cells p loose mean mg mb T X GN F N Y l1 lc K1 hL
  k_cells Y
  (try simp only [List.cons_append, List.nil_append] at N)
  (try dsimp only)
  have isOn : IfStop := trivial
  k_steps
  unfold Stop
  rename Fr _ _ _ _ => F
  refine mono_o (s0 := s) (x := x) (tx := tx) (r := r) VV F ?_ ?_
  · clear isOn hQ l3' l4'
    cases HC with
    | even h2 f1 f2 f3 l1 l2 er hV =>
      dsimp only [mIx, vIx] at f1 f2 f3 l1 l2
      k_steps
      rename Fr _ _ _ _ => F
      rename News _ _ _ _ => N
      exact er ▸ MidO.mk _ _ _ _ _ _ (hV _) (by first | exact Nat.succ_ne_zero _ | assumption | ((try dsimp only); show @Ne Nat _ _; omega)) (fr_mo F rfl rfl rfl) N
    | odd v h2 a1 a2 er hV hk =>
      rcases hk with ⟨hk, ev⟩ | ⟨hk, ev⟩ | ⟨hk, ev⟩
      all_goals
        rw [ev] at a1 a2 er hV
        clear ev
        k_steps
        unfold Stop
        rw [hk]
        k_steps
        rename Fr _ _ _ _ => F
        rename News _ _ _ _ => N
        exact er ▸ MidO.mk _ _ _ _ _ _ (hV _) (by first | exact Nat.succ_ne_zero _ | assumption | ((try dsimp only); show @Ne Nat _ _; omega)) (fr_mo F rfl rfl rfl) N
  · clear isOn F HC
    intro vv h2 tk2 t2 ρ nw hV ht F2 N2
    dsimp only
    k_steps
    unfold Stop
    refine ite_both (fun hb => ?_) (fun hb => ?_)
    · have hW : wordOf x r = _ := if_pos hb
      k_steps
      rename Fr _ _ _ _ => F
      rename News _ _ _ _ => N
      have e := (N (_, tupO [.str _ _, vv]) (.head _))
      exact hQ _ _ _ _ _ hV (gnd_keeps GN F.keep hn (fun p hp => nomatch hp)) (by rw [hW]; exact e.1) (GN.fresh _ e.2.2 (fun q => nomatch q))
    · have hW : wordOf x r = _ := if_neg (ne_true_of_eq_false hb)
      k_steps
      rename Fr _ _ _ _ => F
      rename News _ _ _ _ => N
      have e := (N (_, tupO [.str _ _, vv]) (.head _))
      exact hQ _ _ _ _ _ hV (gnd_keeps GN F.keep hn (fun p hp => nomatch hp)) (by rw [hW]; exact e.1) (GN.fresh _ e.2.2 (fun q => nomatch q))
theorem operand_even (G : Gd w s.heap []) (h0 : 0 ≤ x) (h1 : x < 1000000) (h2 : (x.fmod 2 == 0) = true) (f1 : fitsSsize (mIx x) = true) (f2 : -(("|!\"\\" : PySem.Str).length : Int) ≤ mIx x) (f3 : mIx x < (("|!\"\\" : PySem.Str).length : Int))
    (l1 : (Txt.mul (Txt.item "|!\"\\" (mIx x)) 3).length ≤ 3) (l2 : (PySem.Str.ofString (toString (vIx x))).length ≤ 3)
    (l3 : (hide1 (rep229 (mIx x) (vIx x))).length ≤ 900) (l4 : (hide (rep229 (mIx x) (vIx x))).length ≤ 900)
    (hQ : ∀ h' q t1 t2 tk, Keeps s.heap h' → h'.get? q = some (tupO [.str (wordOf x (rep229 (mIx x) (vIx x))) t1, .int (vIx x) t2]) → s.heap.get? q = none → Q (.ref q) { s with heap := h', toks := tk }) :
    wpAny (model P0 w) (At 460 2600) (call (.ref 316) [.int x tx]) Q E s := by
  have l0 : (rep229 (mIx x) (vIx x)).length ≤ 900 := by
    unfold rep229
    simp only [Str_len, len_item, len5, len1]
    omega
  exact operand_core (VV := fun v => ∃ t, v = .int (vIx x) t) G h0 h1 (.even h2 f1 f2 f3 l1 l2 rfl fun t => ⟨t, rfl⟩) (Nat.le_trans l0 (by decide)) (Nat.le_trans l3 (by decide)) (Nat.le_trans l4 (by decide)) fun h' q t1 vv tk hV k e n => by
    obtain ⟨t, rfl⟩ := hV
    exact hQ h' q t1 t tk k e n
theorem operand_odd2 (G : Gd w s.heap []) (h0 : 0 ≤ x) (h1 : x < 1000000) (h2 : (x.fmod 2 == 0) = false) (hk : (x.fdiv 4).fmod 3 = 2) (HL : NamL (nam2 x))
    (hQ : ∀ h' q t1 t2 tk, Keeps s.heap h' → h'.get? q = some (tupO [.str (wordOf x (rep257 (nam2 x))) t1, .str (nam2 x) t2]) → s.heap.get? q = none → Q (.ref q) { s with heap := h', toks := tk }) :
    wpAny (model P0 w) (At 460 2600) (call (.ref 316) [.int x tx]) Q E s := by
  have a0 : (rep257 (nam2 x)).length ≤ 1000 := by
    have := HL.a2
    unfold rep257
    simp only [Str_len, len1q, len5b]
    omega
  exact operand_core (VV := fun z => ∃ t, z = .str (nam2 x) t) G h0 h1 (.odd (nam2 x) h2 HL.a1 HL.a2 rfl (fun t => ⟨t, rfl⟩) (.inr (.inr ⟨hk, rfl⟩))) a0 HL.a3 HL.a4 fun h' q t1 vv tk hV k e n => by
    obtain ⟨t, rfl⟩ := hV
    exact hQ h' q t1 t tk k e n
theorem operand_odd1 (G : Gd w s.heap []) (h0 : 0 ≤ x) (h1 : x < 1000000) (h2 : (x.fmod 2 == 0) = false) (hk : (x.fdiv 4).fmod 3 = 1) (HL : NamL (nam1 x))
    (hQ : ∀ h' q t1 t2 tk, Keeps s.heap h' → h'.get? q = some (tupO [.str (wordOf x (rep257 (nam1 x))) t1, .str (nam1 x) t2]) → s.heap.get? q = none → Q (.ref q) { s with heap := h', toks := tk }) :
    wpAny (model P0 w) (At 460 2600) (call (.ref 316) [.int x tx]) Q E s := by
  have a0 : (rep257 (nam1 x)).length ≤ 1000 := by
    have := HL.a2
    unfold rep257
    simp only [Str_len, len1q, len5b]
    omega
  exact operand_core (VV := fun z => ∃ t, z = .str (nam1 x) t) G h0 h1 (.odd (nam1 x) h2 HL.a1 HL.a2 rfl (fun t => ⟨t, rfl⟩) (.inr (.inl ⟨hk, rfl⟩))) a0 HL.a3 HL.a4 fun h' q t1 vv tk hV k e n => by
    obtain ⟨t, rfl⟩ := hV
    exact hQ h' q t1 t tk k e n
theorem operand_odd0 (G : Gd w s.heap []) (h0 : 0 ≤ x) (h1 : x < 1000000) (h2 : (x.fmod 2 == 0) = false) (hk : (x.fdiv 4).fmod 3 = 0) (HL : NamL nam0)
    (hQ : ∀ h' q t1 t2 tk, Keeps s.heap h' → h'.get? q = some (tupO [.str (wordOf x (rep257 nam0)) t1, .str nam0 t2]) → s.heap.get? q = none → Q (.ref q) { s with heap := h', toks := tk }) :
    wpAny (model P0 w) (At 460 2600) (call (.ref 316) [.int x tx]) Q E s := by
  have a0 : (rep257 nam0).length ≤ 1000 := by
    have := HL.a2
    unfold rep257
    simp only [Str_len, len1q, len5b]
    omega
  exact operand_core (VV := fun z => ∃ t, z = .str nam0 t) G h0 h1 (.odd nam0 h2 HL.a1 HL.a2 rfl (fun t => ⟨t, rfl⟩) (.inl ⟨hk, rfl⟩)) a0 HL.a3 HL.a4 fun h' q t1 vv tk hV k e n => by
    obtain ⟨t, rfl⟩ := hV
    exact hQ h' q t1 t tk k e n
end
end
section
open PySem PySem.W PyProof.Rows PySem.Spec PySem.Calls Builtin Builtin.Str
theorem kw_E3_1 : True := by
  k_with_none
  k_with "execs cons" => ((with_reducible refine seq_cons fun zQ1 ztk zhQ1 => ?_); try dsimp only)
  trivial
inductive OV where
  | num (n : Int)
  | nam (d : PySem.Str)
/-- a formula -/
inductive Tr where
  | leaf (w : PySem.Str) (o : OV)
  | node (sg : PySem.Str) (l r : Tr)
noncomputable def OVv (v : Value) : OV → Prop
  | .num n => ∃ t, v = .int n t
  | .nam d => ∃ t, v = .str d t
noncomputable def TE.of (p : PySem.Str) : OV → TE
  | .num n => .port p n
  | .nam d => .name p d
/-- it stands on the heap -/
noncomputable def HT (g h : Heap) : Value → Tr → Prop
  | v, .leaf w o => ∃ q t vv, v = .ref q ∧ h.get? q = some (tupO [.str w t, vv]) ∧ g.get? q = none ∧ OVv vv o
  | v, .node sg l r => ∃ q t lv rv, v = .ref q ∧ h.get? q = some (tupO [.str sg t, lv, rv]) ∧ g.get? q = none ∧ HT g h lv l ∧ HT g h rv r
theorem HT.keeps {g h h' : Heap} (k : Keeps h h') : ∀ {T : Tr} {v : Value}, HT g h v T → HT g h' v T := by
  intro T
  induction T with
  | leaf _ _ =>
    intro v H
    obtain ⟨q, t, vv, e, a, b, c⟩ := H
    exact ⟨q, t, vv, e, k _ _ a, b, c⟩
  | node _ _ _ il ir =>
    intro v H
    obtain ⟨q, t, lv, rv, e, a, b, c, d⟩ := H
    exact ⟨q, t, lv, rv, e, k _ _ a, b, il c, ir d⟩
noncomputable def Tr.ht : Tr → Nat
  | .leaf _ _ => 0
  | .node _ l r => Nat.max l.ht r.ht + 1
noncomputable def Tr.ok : Tr → Prop
  | .leaf _ _ => True
  | .node sg l r => sg.length ≤ 1 ∧ l.ok ∧ r.ok
noncomputable abbrev way1 (p sg : PySem.Str) : PySem.Str := p ++ Txt.mul sg (1 - 1)
noncomputable abbrev way2 (p sg : PySem.Str) : PySem.Str := p ++ Txt.mul sg (2 - 1)
noncomputable abbrev lessS (a b : PySem.Str) : Bool := decide (a.cps.toList < b.cps.toList)
/-- is the part written in brackets -/
noncomputable def need (sg : PySem.Str) (first : Bool) : Tr → Bool
  | .leaf _ _ => false
  | .node ps _ _ => lessS ps sg || ((ps == sg) && ((ps == ("^" : PySem.Str)) == first))
/-- the words and what is to be told -/
noncomputable def tell : Tr → PySem.Str → List PySem.Str × List TE
  | .leaf w o, p => ([w], [TE.of p o])
  | .node sg l r, p =>
    let a := if need sg true l then ([("(" : PySem.Str)] ++ (tell l (way1 p sg ++ "(")).1 ++ [(")" : PySem.Str)], (tell l (way1 p sg ++ "(")).2) else tell l (way1 p sg)
    let b := if need sg false r then ([("(" : PySem.Str)] ++ (tell r (way2 p sg ++ "(")).1 ++ [(")" : PySem.Str)], (tell r (way2 p sg ++ "(")).2) else tell r (way2 p sg)
    (a.1 ++ [sg] ++ b.1, a.2 ++ b.2 ++ [.sgn sg])
noncomputable def StrV (v : Value) (x : PySem.Str) : Prop := ∃ t, v = .str x t
/-- what a telling leaves -/
structure TellPost (h h' : Heap) (q : Addr) (W : List PySem.Str) (T : List TE) (wl tl : Addr) (wv tv : Array Value) (kw kt : Nat) (R : List (Addr × Obj)) : Prop where
  kp : Keeps h h'
  q_ : h'.get? q = some (tupO [.ref wl, .ref tl])
  w_ : h'.get? wl = some (listO wv kw)
  t_ : h'.get? tl = some (listO tv kt)
  qn : h.get? q = none
  wn : h.get? wl = none
  tn : h.get? tl = none
  R_ : ∀ p ∈ R, h'.get? p.1 = some p.2 ∧ h.get? p.1 = none
  RT_ : RT R
  W_ : ArrIs StrV wv W
  T_ : ArrIs (TEv R) tv T
noncomputable def TellAt (w : World) (d u N : Nat) : Prop := ∀ (T : Tr) {s : Shared} {g0 : Heap} {v : Value} {path : PySem.Str} {tp : Tok} {Q E : Value → Shared → Prop}, T.ht ≤ N → T.ok → Bs w g0 → Keeps g0 s.heap → HT g0 s.heap v T → path.length + 4 * N ≤ 500 →
  (∀ h' q wl tl wv tv kw kt R tk, TellPost s.heap h' q (tell T path).1 (tell T path).2 wl tl wv tv kw kt R → Q (.ref q) { s with heap := h', toks := tk }) → wpAny (model P0 w) (At d u) (call (.ref 323) [v, .str path tp]) Q E s
theorem ht_addr {g h : Heap} {v : Value} {T : Tr} (H : HT g h v T) : ∃ q l, v = .ref q ∧ h.get? q = some (tupO l) ∧ g.get? q = none := by
  cases T with
  | leaf w o => obtain ⟨q, t, vv, e, a, b, c⟩ := H; exact ⟨q, _, e, a, b⟩
  | node sg l r => obtain ⟨q, t, lv, rv, e, a, b, c, d⟩ := H; exact ⟨q, _, e, a, b⟩
theorem fillE3x (w : World) (h : Heap) (X : (Mine.hd.heap_39 w.params).In h) (e : PySem.Challenge.rw_wu0089_01.foot = PySem.Challenge.rw_wu0089_01.foot) : True := by
  revert X e; k_fill; intro _ _; trivial

theorem kw_E3_2 : True := by
  k_with "ktr_enter" => (refine' enter_fn ?q57a ?q57d ?q57e ?q57f ?q57g ?q57h ?q57i ?_ ?q57j ?q57k ?q57b ?q57c; (case q57g => assumption); (case q57a => assumption); (case q57e => k_is); (case q57f => k_is); (case q57d => first | assumption | decide); (case q57h => first | exact BindsTo.of_eq rfl | exact binds_K (Gd.here (by assumption)).X rfl (by k_is) rfl rfl rfl); (case q57j => decide); (case q57i => exact locs rfl); (case q57k => exact rfl); (case q57b => exact rfl); (case q57c => exact rfl); k_whole; rintro zg' zL' zh' zp' zl' zmean' zmg' zmb' zT' zX' zGN zF' zN' zl1 zK1 zhL'; (try dsimp only); (try k_fold))
  k_with "call ref" => (k_here; (with_reducible show wpAny _ _ (call (Value.ref _) _) _ _ _); refine stop ?_)
  k_with "binaryOp Mult str int" => (k_dflt (refine SB.mul (mulOk_of 16 16 (by assumption) (by decide) (by decide) (by decide) (by decide)) ?_; intro _ _))
  k_with "binaryOp Add str str" => k_dflt ((refine SBL.add (hsz := ?q45a) ?_); (case q45a => assumption); intro _ _)
  k_with "ite" => k_dflt (first | refine ite_pos (by assumption) ?_ | refine ite_neg (ne_true_of_eq_false (by assumption)) ?_ | (k_closed; refine ite_neg (by decide) ?_) | (k_closed; refine ite_pos (by decide) ?_) | refine stop ?_)
  trivial
section
variable {w : World} {s : Shared} {A : Around} {g : Heap} {L : Addr} {m : PySem.Str → Option Value} {news : List (Addr × Obj)} {Q E : Value → Shared → Prop}
theorem tell_W {d u N : Nat} (IH : TellAt w d u N) {T : Tr} {g0 : Heap} {v : Value} {path : PySem.Str} {tp : Tok} (hT : T.ht ≤ N) (ho : T.ok) (B0 : Bs w g0) (k0 : Keeps g0 s.heap) (H : HT g0 s.heap v T) (hp : path.length + 4 * N ≤ 500) (F : Fr g L s.heap m) (Nw : News g L s.heap news) (hA : Le A (At d u))
    (h : ∀ h' q wl tl wv tv kw kt R tk, Fr g L h' m → News g L h' ((q, tupO [.ref wl, .ref tl]) :: (wl, listO wv kw) :: (tl, listO tv kt) :: (news ++ R)) → Keeps s.heap h' → RT R → (∀ p ∈ R, s.heap.get? p.1 = none) → ArrIs StrV wv (tell T path).1 → ArrIs (TEv R) tv (tell T path).2 → Q (.ref q) { s with heap := h', toks := tk }) :
    wpAny (model P0 w) A (call (.ref 323) [v, .str path tp]) Q E s :=
  at_le hA (IH T hT ho B0 k0 H hp fun h' q wl tl wv tv kw kt R tk P => h h' q wl tl wv tv kw kt R tk (fr_keeps F P.kp)
    (news_add F (news_add F (news_add F (fun p hp => (List.mem_append.mp hp).elim (fun hp => news_keeps Nw P.kp p hp) fun hp => by
      have z := P.R_ p hp
      exact news_add F (news_keeps Nw P.kp) z.2 z.1 p (.head _)) P.tn P.t_) P.wn P.w_) P.qn P.q_) P.kp P.RT_ (fun p hp => (P.R_ p hp).2) P.W_ P.T_)
theorem leaf_post {g h h' : Heap} {L : Addr} {m : PySem.Str → Option Value} {D l1 l2 D2 q : Addr} {word path : PySem.Str} {t tp : Tok} {vv : Value} {o : OV} {k1 k2 : Nat} (GN : Gnd w h [(q, tupO [.str word t, vv])] g) (F : Fr g L h' m)
    (N : News g L h' [(D, tupO [.ref l1, .ref l2]), (l2, listO #[.ref D2] k2), (D2, tupO [.str path tp, vv]), (l1, listO #[.str word t] k1), (q, tupO [.str word t, vv])]) (a : h.get? q = some (tupO [.str word t, vv]))
    (n1 : D ∉ [q]) (n2 : l1 ∉ [q]) (n3 : l2 ∉ [q]) (n4 : D2 ∉ [q]) (hv : OVv vv o) : TellPost h h' D [word] [TE.of path o] l1 l2 #[.str word t] #[.ref D2] k1 k2 [(D2, tupO [.str path tp, vv])] := by
  have z : ∀ {p : Addr × Obj}, p ∈ _ → _ := fun {p} hp => N p hp
  refine ⟨gnd_keeps GN F.keep (all_one a) (all_one (N (q, _) (by k_mem)).1), (N (D, _) (by k_mem)).1, (N (l1, _) (by k_mem)).1, (N (l2, _) (by k_mem)).1, GN.fresh _ (N (D, _) (by k_mem)).2.2 n1, GN.fresh _ (N (l1, _) (by k_mem)).2.2 n2, GN.fresh _ (N (l2, _) (by k_mem)).2.2 n3,
    all_one ⟨(N (D2, _) (by k_mem)).1, GN.fresh _ (N (D2, _) (by k_mem)).2.2 n4⟩, all_one ⟨_, rfl⟩, ?_, ?_⟩
  · have := (ArrIs.nil (rel := StrV)).push (v := .str word t) (e := word) ⟨t, rfl⟩
    simpa using this
  · have hh : TEv [(D2, tupO [.str path tp, vv])] (.ref D2) (TE.of path o) := by
      cases o with
      | num n => obtain ⟨u, rfl⟩ := hv; exact ⟨D2, tp, u, rfl, .head _⟩
      | nam d => obtain ⟨u, rfl⟩ := hv; exact ⟨D2, tp, u, rfl, .head _⟩
    have := (ArrIs.nil (rel := TEv [(D2, tupO [.str path tp, vv])])).push hh
    simpa using this
theorem tell_leaf {d u : Nat} {g0 : Heap} {v : Value} {path word : PySem.Str} {o : OV} {tp : Tok} (hroom : d < recursionLimit) (B0 : Bs w g0) (k0 : Keeps g0 s.heap) (H : HT g0 s.heap v (.leaf word o))
    (hQ : ∀ h' q wl tl wv tv kw kt R tk, TellPost s.heap h' q [word] [TE.of path o] wl tl wv tv kw kt R → Q (.ref q) { s with heap := h', toks := tk }) : wpAny (model P0 w) (At d u) (call (.ref 323) [v, .str path tp]) Q E s := by
  obtain ⟨q, t, vv, rfl, a, b, c⟩ := H
  have hn : ∀ p ∈ [(q, tupO [.str word t, vv])], s.heap.get? p.1 = some p.2 := all_one a
  have G : Gd w s.heap [q] := Gd.of B0 k0 (all1 b)
  refine wpAny_call ?_
  k_dflt ktr_enter
  k_steps
  rename Gnd w s.heap _ _ => GN
  rename Fr _ _ _ _ => F
  rename News _ _ _ _ => N
  refine hQ _ _ _ _ _ _ _ _ _ _ (leaf_post GN F N a ?_ ?_ ?_ ?_ c)
  · exact fun q => absurd (List.mem_singleton.mp q) (by k_ne)
  · exact fun q => absurd (List.mem_singleton.mp q) (by k_ne)
  · exact fun q => absurd (List.mem_singleton.mp q) (by k_ne)
  · exact fun q => absurd (List.mem_singleton.mp q) (by k_ne)
end
end
section
open PySem PySem.W PyProof.Rows PySem.Spec PySem.Calls Builtin Builtin.Str
theorem kw_E4_1 : True := by
  k_with_none
  k_with "execs cons" => ((with_reducible refine seq_cons fun zQ1 ztk zhQ1 => ?_); try dsimp only)
  trivial
section
variable {w : World} {s : Shared} {A : Around} {g : Heap} {L : Addr} {m : PySem.Str → Option Value} {news : List (Addr × Obj)} {Q E : Value → Shared → Prop} {a b : Addr} {va vb : Array Value} {ka kb : Nat} {v : Value} {u : Tok}
theorem lst_add (F : Fr g L s.heap m) (N : News g L s.heap news) (ha : (a, listO va ka) ∈ news) (hb : (b, listO vb kb) ∈ news) (hz : va.size + vb.size ≤ sizeLine)
    (h : ∀ D h', Fr g L h' m → News g L h' ((D, listO (va ++ vb)) :: news) → (∀ p ∈ news, p.1 < D) → Q (.ref D) { s with heap := h' }) : wpAny (model P0 w) A (binaryOp .Add (.ref a) (.ref b)) Q E s :=
  add_arrays F N ⟨_, (N _ ha).1, rfl, _, rfl⟩ ⟨_, (N _ hb).1, rfl, _, rfl⟩ (fun h' F' N' => h _ h' F' (by
    have e : (va.toList ++ vb.toList).toArray = va ++ vb := by apply Array.ext'; simp
    rw [e] at N'; exact N') fun p hp => Heap.lt_size (N p hp).1) hz
theorem lst_mul0 (F : Fr g L s.heap m) (N : News g L s.heap news) (ha : (a, listO #[v] ka) ∈ news)
    (h : ∀ D h', Fr g L h' m → News g L h' ((D, listO #[]) :: news) → (∀ p ∈ news, p.1 < D) → Q (.ref D) { s with heap := h' }) : wpAny (model P0 w) A (binaryOp .Mult (.ref a) (.int (1 - 1) u)) Q E s :=
  mul_list F N (N _ ha).1 (by decide) (by decide) (by simp) fun h' F' N' => h _ h' F' N' fun p hp => Heap.lt_size (N p hp).1
theorem lst_mul1 (F : Fr g L s.heap m) (N : News g L s.heap news) (ha : (a, listO #[v] ka) ∈ news)
    (h : ∀ D h', Fr g L h' m → News g L h' ((D, listO #[v]) :: news) → (∀ p ∈ news, p.1 < D) → Q (.ref D) { s with heap := h' }) : wpAny (model P0 w) A (binaryOp .Mult (.ref a) (.int (2 - 1) u)) Q E s :=
  mul_list F N (N _ ha).1 (by decide) (by decide) (by simp) fun h' F' N' => h _ h' F' N' fun p hp => Heap.lt_size (N p hp).1
noncomputable def CondP (b0 : Bool) (h : Heap) (gs : Array GenState) (dr : Drawn) (os : OsState) (b : Bool) (s' : Shared) : Prop := b = b0 ∧ ∃ tk, s' = ⟨h, gs, dr, tk, os⟩
theorem cond_W {b0 : Bool} {t : Sem Bool} {P : Bool → Shared → Prop} {h : Heap} {gs : Array GenState} {dr : Drawn} {tk0 : Nat} {os : OsState} (hc : wpAny (model P0 w) A t (CondP b0 h gs dr os) (fun _ _ => False) ⟨h, gs, dr, tk0, os⟩)
    (hm : ∀ tk, P b0 ⟨h, gs, dr, tk, os⟩) : wpAny (model P0 w) A t P E ⟨h, gs, dr, tk0, os⟩ :=
  wpAny_mono hc (fun b s' hb => by obtain ⟨rfl, tk, rfl⟩ := hb; exact hm tk) fun _ _ e => e.elim
theorem sz_W {a : Array Value} {b : Bool} {W1 W2 : List PySem.Str} {T1 T2 : List TE} (A : ArrIs StrV a (if b then ([("(" : PySem.Str)] ++ W1 ++ [(")" : PySem.Str)], T1) else (W2, T2)).1) (h1 : W1.length < 1000) (h2 : W2.length < 1000) : a.size ≤ 2000 := by
  rw [A.size]
  cases b <;> simp <;> omega
theorem sz_T {a : Array Value} {R : List (Addr × Obj)} {b : Bool} {W1 W2 : List PySem.Str} {T1 T2 : List TE} (A : ArrIs (TEv R) a (if b then (W1, T1) else (W2, T2)).2) (h1 : T1.length < 1000) (h2 : T2.length < 1000) : a.size ≤ 2000 := by
  rw [A.size]
  cases b <;> simp <;> omega
inductive MidT (H0 g : Heap) (L : Addr) (m0 : PySem.Str → Option Value) (BASE : List (Addr × Obj)) (gs : Array GenState) (dr : Drawn) (os : OsState) (W : List PySem.Str) (T : List TE) : Flow → Shared → Prop
  | mk (h' : Heap) (tk : Nat) (il : Addr) (nl : Addr) (iv : Array Value) (nv : Array Value) (ki : Nat) (kn : Nat) (R : List (Addr × Obj)) : Fr g L h' (fun y : PySem.Str => if y = "named" then some (.ref nl) else if y = "inner" then some (.ref il) else m0 y) → News g L h' ((il, listO iv ki) :: (nl, listO nv kn) :: (BASE ++ R)) → RT R → (∀ p ∈ R, H0.get? p.1 = none) → ArrIs StrV iv W → ArrIs (TEv R) nv T → MidT H0 g L m0 BASE gs dr os W T .next ⟨h', gs, dr, tk, os⟩
theorem if_mid {H0 : Heap} {m0 : PySem.Str → Option Value} {BASE : List (Addr × Obj)} {h : Heap} {gs : Array GenState} {dr : Drawn} {os : OsState} {tk : Nat} {c : Bool} {b1 b2 : List Stmt} {env : Env} {Q : Flow → Shared → Prop} (W : List PySem.Str) (T : List TE) (F : Fr g L h m0) (N : News g L h BASE)
    (h1 : c = true → wpAny (model P0 w) A (execs b1 env) (MidT H0 g L m0 BASE gs dr os W T) (fun _ _ => False) ⟨h, gs, dr, tk, os⟩) (h2 : c = false → wpAny (model P0 w) A (execs b2 env) (MidT H0 g L m0 BASE gs dr os W T) (fun _ _ => False) ⟨h, gs, dr, tk, os⟩)
    (hm : ∀ h' tk il nl iv nv ki kn R, Fr g L h' (fun y : PySem.Str => if y = "named" then some (.ref nl) else if y = "inner" then some (.ref il) else m0 y) → News g L h' ((il, listO iv ki) :: (nl, listO nv kn) :: (BASE ++ R)) → RT R → (∀ p ∈ R, H0.get? p.1 = none) → ArrIs StrV iv W → ArrIs (TEv R) nv T → Q .next ⟨h', gs, dr, tk, os⟩) : if c = true then wpAny (model P0 w) A (execs b1 env) Q E ⟨h, gs, dr, tk, os⟩ else wpAny (model P0 w) A (execs b2 env) Q E ⟨h, gs, dr, tk, os⟩ := by
  cases c
  · rw [if_neg (by decide)]; exact wpAny_mono (h2 rfl) (fun _ _ hM => hM.casesOn (motive := fun f s' _ => Q f s') hm) fun _ _ e => e.elim
  · rw [if_pos rfl]; exact wpAny_mono (h1 rfl) (fun _ _ hM => hM.casesOn (motive := fun f s' _ => Q f s') hm) fun _ _ e => e.elim
theorem mid_intro {H0 : Heap} {m0 m : PySem.Str → Option Value} {BASE ex R : List (Addr × Obj)} {h' : Heap} {gs : Array GenState} {dr : Drawn} {os : OsState} {tk : Nat} {W : List PySem.Str} {T : List TE} {il nl : Addr} {iv nv : Array Value} {ki kn : Nat} (F : Fr g L h' m) (h1 : m "named" = some (.ref nl)) (h2 : m "inner" = some (.ref il)) (h3 : ∀ y : PySem.Str, y ≠ "named" → y ≠ "inner" → m y = m0 y)
    (N : News g L h' (ex ++ (BASE ++ R))) (hi : (il, listO iv ki) ∈ ex) (hn : (nl, listO nv kn) ∈ ex) (hR : RT R) (hR0 : ∀ p ∈ R, H0.get? p.1 = none) (aW : ArrIs StrV iv W) (aT : ArrIs (TEv R) nv T) : MidT H0 g L m0 BASE gs dr os W T .next ⟨h', gs, dr, tk, os⟩ := by
  refine .mk h' tk il nl iv nv ki kn R ?_ (fun p hp => ?_) hR hR0 aW aT
  · have : m = (fun y : PySem.Str => if y = "named" then some (.ref nl) else if y = "inner" then some (.ref il) else m0 y) := by
      funext y
      by_cases a : y = "named"
      · rw [if_pos a, a, h1]
      rw [if_neg a]
      by_cases b : y = "inner"
      · rw [if_pos b, b, h2]
      rw [if_neg b, h3 y a b]
    exact this ▸ F
  · rcases List.mem_cons.mp hp with rfl | hp
    · exact N _ (List.mem_append_left _ hi)
    · rcases List.mem_cons.mp hp with rfl | hp
      · exact N _ (List.mem_append_left _ hn)
      · exact N _ (List.mem_append_right _ hp)
theorem cls_ne {a b : String} (h : a ≠ b) : Value.type a ≠ Value.type b := fun q => h (by injection q)
theorem ArrIs.append {α : Type} {rel : Value → α → Prop} {a b : Array Value} {l l' : List α} (A : ArrIs rel a l) (B : ArrIs rel b l') : ArrIs rel (a ++ b) (l ++ l') := by
  refine ⟨by simp [A.size, B.size], fun k e hk => ?_⟩
  by_cases q : k < l.length
  · rw [List.getElem?_append_left q] at hk
    obtain ⟨v, x, y⟩ := A.at_ k e hk
    exact ⟨v, by rw [Array.getElem?_append_left (by rw [A.size]; exact q)]; exact x, y⟩
  · have q' : l.length ≤ k := Nat.le_of_not_lt q
    rw [List.getElem?_append_right q'] at hk
    obtain ⟨v, x, y⟩ := B.at_ _ e hk
    exact ⟨v, by rw [Array.getElem?_append_right (by rw [A.size]; exact q'), A.size]; exact x, y⟩
theorem ArrIs.one {α : Type} {rel : Value → α → Prop} {v : Value} {e : α} (h : rel v e) : ArrIs rel #[v] [e] := (ArrIs.nil (rel := rel)).push h
theorem unr_tell {s₁ : Shared} {h' : Heap} {tk : Nat} {m' : PySem.Str → Option Value} {rest : (PySem.Str → Option Value) → List (Addr × Obj) → Prop} {Dt Dw i q lq rq : Addr} {vt vw : Array Value} {kt kw : Nat} {lt l1 l2 : List Value} {oi : Obj} {a3 a4 a5 a6 a7 : Addr × Obj} {xs R : List (Addr × Obj)}
    (F : Fr g L h' m') (N : News g L h' ((Dt, listO vt kt) :: (Dw, listO vw kw) :: a3 :: a4 :: a5 :: a6 :: a7 :: (i, oi) :: (xs ++ ((q, tupO lt) :: (lq, tupO l1) :: (rq, tupO l2) :: R)))) (hci : oi.cls = .type "tuple_iterator")
    (cx : ∀ p ∈ xs, p.2.cls ≠ .type "tuple_iterator") (hR : RT R) (r : rest m' ((Dw, listO vw kw) :: (Dt, listO vt kt) :: (xs ++ ((q, tupO lt) :: (lq, tupO l1) :: (rq, tupO l2) :: R)))) :
    UnrEndW g L s₁ [(i, oi)] rest { s₁ with heap := h', toks := tk } := by
  have hi := N (i, oi) (by k_mem)
  have kc : ∀ p ∈ (Dw, listO vw kw) :: (Dt, listO vt kt) :: (xs ++ ((q, tupO lt) :: (lq, tupO l1) :: (rq, tupO l2) :: R)), p.2.cls ≠ .type "tuple_iterator" :=
    List.forall_mem_cons.mpr ⟨cls_ne (by decide), List.forall_mem_cons.mpr ⟨cls_ne (by decide), List.forall_mem_append.mpr ⟨cx, List.forall_mem_cons.mpr ⟨cls_ne (by decide), List.forall_mem_cons.mpr ⟨cls_ne (by decide), List.forall_mem_cons.mpr ⟨cls_ne (by decide), fun p hp => by
      obtain ⟨l, e⟩ := hR p hp
      rw [e]; exact cls_ne (by decide)⟩⟩⟩⟩⟩⟩
  have key := fun p (hp : p ∈ (Dw, listO vw kw) :: (Dt, listO vt kt) :: (xs ++ ((q, tupO lt) :: (lq, tupO l1) :: (rq, tupO l2) :: R))) => N p (sel_mem [1, 0] 8 hp)
  refine ⟨h', tk, m', _, rfl, F, fun p hp => ?_, fun p hp q' hq' e => ?_, r⟩
  · rcases List.mem_append.mp hp with hp | hp
    · rw [List.mem_singleton.mp hp]; exact hi
    · exact key p hp
  · rw [List.mem_singleton.mp hq'] at e
    have z := (key p hp).1
    rw [show p.1 = i from e, hi.1] at z
    exact kc p hp (by rw [← Option.some.inj z]; exact hci)
theorem node_post {h h' : Heap} {m : PySem.Str → Option Value} {D Dt Dw q lq rq : Addr} {vt vw : Array Value} {kt kw : Nat} {lt l1 l2 : List Value} {b1 : Addr × Obj} {xs R : List (Addr × Obj)} {W : List PySem.Str} {T : List TE} (GN : Gnd w h [(q, tupO lt), (lq, tupO l1), (rq, tupO l2)] g) (F : Fr g L h' m)
    (N : News g L h' ((D, tupO [.ref Dw, .ref Dt]) :: (Dt, listO vt kt) :: b1 :: (Dw, listO vw kw) :: (xs ++ ((q, tupO lt) :: (lq, tupO l1) :: (rq, tupO l2) :: R)))) (hn : ∀ p ∈ [(q, tupO lt), (lq, tupO l1), (rq, tupO l2)], h.get? p.1 = some p.2)
    (n1 : D ∉ [q, lq, rq]) (n2 : Dw ∉ [q, lq, rq]) (n3 : Dt ∉ [q, lq, rq]) (hR : RT R) (hR0 : ∀ p ∈ R, h.get? p.1 = none) (aW : ArrIs StrV vw W) (aT : ArrIs (TEv R) vt T) : TellPost h h' D W T Dw Dt vw vt kw kt R := by
  have t3 : ∀ p ∈ [(q, tupO lt), (lq, tupO l1), (rq, tupO l2)], h'.get? p.1 = some p.2 := fun p hp => (N p (List.mem_append_right [_, _, _, _] (List.mem_append_right xs (List.mem_append_left R hp)))).1
  exact ⟨gnd_keeps GN F.keep hn t3, (N (D, _) (by k_mem)).1, (N (Dw, _) (by k_mem)).1, (N (Dt, _) (by k_mem)).1, GN.fresh _ (N (D, _) (by k_mem)).2.2 n1, GN.fresh _ (N (Dw, _) (by k_mem)).2.2 n2, GN.fresh _ (N (Dt, _) (by k_mem)).2.2 n3,
    fun p hp => ⟨(N p (List.mem_append_right [_, _, _, _] (List.mem_append_right xs (List.mem_append_right [_, _, _] hp)))).1, hR0 p hp⟩, hR, aW, aT⟩
theorem none_back {a b : Heap} (k : Keeps a b) {q : Addr} (h : b.get? q = none) : a.get? q = none := by
  cases z : a.get? q with
  | none => rfl
  | some o => have := k _ _ z; rw [h] at this; cases this
theorem rt_app {R R' : List (Addr × Obj)} (a : RT R) (b : RT R') : RT (R ++ R') := fun p hp => (List.mem_append.mp hp).elim (a p) (b p)
theorem mul_0 (sg : PySem.Str) : Txt.mul sg (1 - 1) = "" := by
  unfold Txt.mul; rw [if_pos (by decide)]; decide +kernel
theorem mul_1 (sg : PySem.Str) : Txt.mul sg (2 - 1) = sg := by
  unfold Txt.mul; rw [if_neg (by decide), if_pos (by simp)]
noncomputable def Shape : Tr → List Value → Prop
  | .leaf word _, ll => ∃ t vv, ll = [.str word t, vv]
  | .node ps _ _, ll => ∃ t a b, ll = [.str ps t, a, b]
theorem ht_shape {g h : Heap} {v : Value} {T : Tr} (H : HT g h v T) : ∃ q ll, v = .ref q ∧ h.get? q = some (tupO ll) ∧ g.get? q = none ∧ Shape T ll := by
  cases T with
  | leaf w o => obtain ⟨q, t, vv, e, a, b, c⟩ := H; exact ⟨q, _, e, a, b, t, vv, rfl⟩
  | node sg l r => obtain ⟨q, t, lv, rv, e, a, b, c, d⟩ := H; exact ⟨q, _, e, a, b, t, lv, rv, rfl⟩
theorem len_lp : ("(" : PySem.Str).length = 1 := by decide +kernel
end
theorem fillE4x (w : World) (h : Heap) (X : (Mine.hd.heap_39 w.params).In h) (e : PySem.Challenge.rw_wu0089_01.foot = PySem.Challenge.rw_wu0089_01.foot) : True := by
  revert X e; k_fill; intro _ _; trivial

theorem kw_E4_2 : True := by
  k_with "ktr_enter" => (refine' enter_fn ?q57a ?q57d ?q57e ?q57f ?q57g ?q57h ?q57i ?_ ?q57j ?q57k ?q57b ?q57c; (case q57g => assumption); (case q57a => assumption); (case q57e => k_is); (case q57f => k_is); (case q57d => first | assumption | decide); (case q57h => first | exact BindsTo.of_eq rfl | exact binds_K (Gd.here (by assumption)).X rfl (by k_is) rfl rfl rfl); (case q57j => decide); (case q57i => exact locs rfl); (case q57k => exact rfl); (case q57b => exact rfl); (case q57c => exact rfl); k_whole; rintro zg' zL' zh' zp' zl' zmean' zmg' zmb' zT' zX' zGN zF' zN' zl1 zK1 zhL'; (try dsimp only); (try k_fold))
  k_with "call ref" => (k_here; (with_reducible show wpAny _ _ (call (Value.ref _) _) _ _ _); refine stop ?_)
  k_with "exec If" => (k_here; refine stop ?_)
  k_with "binaryOp Mult str int" => (k_dflt (refine SB.mul (mulOk_of 16 16 (by assumption) (by decide) (by decide) (by decide) (by decide)) ?_; intro _ _))
  k_with "binaryOp Mult ref int" => (k_here; (with_reducible show wpAny _ _ (binaryOp _ _ (Value.int (1 - 1) _)) _ _ _); k_dflt (refine' lst_mul0 ?q59a ?q59b ?q59c ?_; (case q59a => k_asm); (case q59b => k_asm); (case q59c => k_mem); k_whole); intro zD' zh' zF' zN' zl1; (try k_sweep))
  k_with "binaryOp Mult ref int" => (k_here; (with_reducible show wpAny _ _ (binaryOp _ _ (Value.int (2 - 1) _)) _ _ _); k_dflt (refine' lst_mul1 ?q60a ?q60b ?q60c ?_; (case q60a => k_asm); (case q60b => k_asm); (case q60c => k_mem); k_whole); intro zD' zh' zF' zN' zl1; (try k_sweep))
  k_with "binaryOp Add ref ref" => (k_here; k_dflt (refine' lst_add ?q61a ?q61b ?q61c ?q61d ?q61e ?_; (case q61a => k_asm); (case q61b => k_asm); (case q61c => k_mem); (case q61d => k_mem); (case q61e => ((simp only [Array.size_append, List.size_toArray, List.length_cons, List.length_nil]); omega)); k_whole); intro zD' zh' zF' zN' zl1; (try k_sweep))
  k_with "binaryOp Add str str" => k_dflt ((refine SBL.add (hsz := ?q45a) ?_); (case q45a => assumption); intro _ _)
  k_with "ite" => k_dflt (first | refine ite_pos (by assumption) ?_ | refine ite_neg (ne_true_of_eq_false (by assumption)) ?_ | (k_closed; refine ite_neg (by decide) ?_) | (k_closed; refine ite_pos (by decide) ?_) | refine stop ?_)
  trivial
section
variable {w : World} {s : Shared} {Q E : Value → Shared → Prop}
theorem tell_node {d u d' u' N : Nat} (IH : TellAt w d' u' N) (hle : ∀ env, Le ((At d u).deeper env) (At d' u')) (hroom : d < recursionLimit) {g0 : Heap} {v : Value} {path sg : PySem.Str} {l r : Tr} {tp : Tok} (hl : l.ht ≤ N) (hr : r.ht ≤ N) (hs : sg.length ≤ 1) (hlo : l.ok) (hro : r.ok) (B0 : Bs w g0) (k0 : Keeps g0 s.heap) (H : HT g0 s.heap v (.node sg l r)) (hp : path.length + 4 * N + 4 ≤ 500) (hW1 : ∀ p, (tell l p).1.length < 1000) (hT1 : ∀ p, (tell l p).2.length < 1000) (hW2 : ∀ p, (tell r p).1.length < 1000) (hT2 : ∀ p, (tell r p).2.length < 1000)
    (hQ : ∀ h' q wl tl wv tv kw kt R tk, TellPost s.heap h' q (tell (.node sg l r) path).1 (tell (.node sg l r) path).2 wl tl wv tv kw kt R → Q (.ref q) { s with heap := h', toks := tk }) :
    wpAny (model P0 w) (At d u) (call (.ref 323) [v, .str path tp]) Q E s := by
  obtain ⟨q, t, lv, rv, rfl, a, b, Hl, Hr⟩ := H
  obtain ⟨lq, ll, rfl, la, lb, Sl⟩ := ht_shape Hl
  obtain ⟨rq, rl, rfl, ra, rb, Sr⟩ := ht_shape Hr
  have hn : ∀ p ∈ [(q, tupO [.str sg t, .ref lq, .ref rq]), (lq, tupO ll), (rq, tupO rl)], s.heap.get? p.1 = some p.2 := by
    intro q hq; simp only [List.mem_cons, List.not_mem_nil, or_false] at hq; rcases hq with rfl | rfl | rfl <;> assumption
  have G : Gd w s.heap [q, lq, rq] := Gd.of B0 k0 (all3 b lb rb)
  have z0 : sg.length ≤ 16 := Nat.le_trans hs (by decide)
  have hL : 100000 ≤ sizeLine := by decide
  have z1 : path.length + (Txt.mul sg (1 - 1)).length ≤ sizeLine := by rw [mul_0, e_len]; omega
  have z2 : path.length + (Txt.mul sg (2 - 1)).length ≤ sizeLine := by rw [mul_1]; omega
  have z3 : (path ++ Txt.mul sg (1 - 1)).length + ("(" : PySem.Str).length ≤ sizeLine := by rw [Str_len, mul_0, e_len, len_lp]; omega
  have z4 : (path ++ Txt.mul sg (2 - 1)).length + ("(" : PySem.Str).length ≤ sizeLine := by rw [Str_len, mul_1, len_lp]; omega
  refine wpAny_call ?_
  k_dflt ktr_enter
  k_steps
  unfold Stop
  refine wpAny_If ?_
  k_steps
  unfold Stop
  refine wpAny_If ?_
  refine cond_W (b0 := need sg true l) ?_ ?_
  · cases l with
    | leaf lw lo =>
      obtain ⟨t2, vv, e0⟩ := Sl
      rename News _ _ _ _ => N
      rw [e0] at N
      clear e0
      k_steps
      exact ⟨rfl, _, rfl⟩
    | node ps l1 l2 =>
      obtain ⟨t2, av, bv, e0⟩ := Sl
      rename News _ _ _ _ => N
      rw [e0] at N
      clear e0
      k_steps
      unfold Stop
      cases c1 : lessS ps sg
      · k_steps
        unfold Stop
        cases c2 : (ps == sg)
        · k_steps
          exact ⟨by simp only [need, c1, c2]; rfl, _, rfl⟩
        · cases c3 : ((ps == ("^" : PySem.Str)) == ((1 : Int) == 1))
          · k_steps
            exact ⟨by simp only [need, c1, c2, Bool.false_or, Bool.true_and]; exact c3.symm, _, rfl⟩
          · k_steps
            exact ⟨by simp only [need, c1, c2, Bool.false_or, Bool.true_and]; exact c3.symm, _, rfl⟩
      · k_steps
        exact ⟨by simp only [need, c1]; rfl, _, rfl⟩
  · intro tk5
    rename Fr _ _ _ _ => F
    rename News _ _ _ _ => N
    refine if_mid (H0 := s.heap) ((if need sg true l then ([("(" : PySem.Str)] ++ (tell l (way1 path sg ++ "(")).1 ++ [(")" : PySem.Str)], (tell l (way1 path sg ++ "(")).2) else tell l (way1 path sg)).1) ((if need sg true l then ([("(" : PySem.Str)] ++ (tell l (way1 path sg ++ "(")).1 ++ [(")" : PySem.Str)], (tell l (way1 path sg ++ "(")).2) else tell l (way1 path sg)).2) F N (fun hb => ?_) (fun hb => ?_) ?_
    · k_steps
      unfold Stop
      rename Gnd w s.heap _ _ => GN
      rename Fr _ _ _ _ => F
      rename News _ _ _ _ => N
      have kk := gnd_keeps GN F.keep hn (mem_all3 (N (q, _) (by k_mem)).1 (N (lq, _) (by k_mem)).1 (N (rq, _) (by k_mem)).1)
      refine tell_W IH hl hlo B0 (k0.trans kk) (Hl.keeps kk) (by rw [Str_len, Str_len, mul_0, e_len, len_lp]; omega) F N (hle _) (fun h1 q1 w1 t1 wv1 tv1 kw1 kt1 R1 tk1 F1 N1 k1 rt1 rn1 a1 e1 => ?_)
      have sz1 : wv1.size ≤ 1000 := by rw [a1.size]; exact (Nat.le_of_lt (hW1 _))
      have st1 : tv1.size ≤ 1000 := by rw [e1.size]; exact (Nat.le_of_lt (hT1 _))
      simp only [List.cons_append, List.nil_append, List.append_assoc] at N1
      have ro1 : ∀ p ∈ R1, s.heap.get? p.1 = none := fun p hp => none_back kk (rn1 p hp)
      clear F N kk k1 rn1
      k_steps
      rename Fr _ _ _ _ => F
      rename News _ _ _ _ => N
      exact mid_intro (ex := [_, _, _, _, _, _, _]) F rfl rfl (fun y a b => by simp [a, b]) N (.head _) (by k_mem) rt1 ro1 (by rw [if_pos hb]; exact ((ArrIs.one ⟨_, rfl⟩).append a1).append (ArrIs.one ⟨_, rfl⟩)) (by rw [if_pos hb]; exact e1)
    · k_steps
      unfold Stop
      rename Gnd w s.heap _ _ => GN
      rename Fr _ _ _ _ => F
      rename News _ _ _ _ => N
      have kk := gnd_keeps GN F.keep hn (mem_all3 (N (q, _) (by k_mem)).1 (N (lq, _) (by k_mem)).1 (N (rq, _) (by k_mem)).1)
      refine tell_W IH hl hlo B0 (k0.trans kk) (Hl.keeps kk) (by rw [Str_len, mul_0, e_len]; omega) F N (hle _) (fun h1 q1 w1 t1 wv1 tv1 kw1 kt1 R1 tk1 F1 N1 k1 rt1 rn1 a1 e1 => ?_)
      have sz1 : wv1.size ≤ 1000 := by rw [a1.size]; exact (Nat.le_of_lt (hW1 _))
      have st1 : tv1.size ≤ 1000 := by rw [e1.size]; exact (Nat.le_of_lt (hT1 _))
      simp only [List.cons_append, List.nil_append, List.append_assoc] at N1
      have ro1 : ∀ p ∈ R1, s.heap.get? p.1 = none := fun p hp => none_back kk (rn1 p hp)
      clear F N kk k1 rn1
      k_steps
      rename Fr _ _ _ _ => F
      rename News _ _ _ _ => N
      exact mid_intro (ex := [_, _, _]) F rfl rfl (fun y a b => by simp [a, b]) N (by k_mem) (by k_mem) rt1 ro1 (by rw [if_neg (ne_true_of_eq_false hb)]; exact a1) (by rw [if_neg (ne_true_of_eq_false hb)]; exact e1)
    · clear F N
      intro h5 tk6 il nl iv nv ki kn R5 F5 N5 rt5 ro5 aW5 aT5
      simp only [List.cons_append, List.nil_append, List.append_assoc] at N5
      have szi : iv.size ≤ 2000 := sz_W aW5 (hW1 _) (hW1 _)
      have szn : nv.size ≤ 2000 := sz_T aT5 (hT1 _) (hT1 _)
      k_steps
      rename Fr _ _ _ _ => F
      rename News _ _ _ _ => N
      refine unr_tell (xs := [_, _, _]) F N ?u1 ?u2 (rt5) ⟨⟨?u5, trivial⟩, ?_⟩
      case u1 => assumption
      case u2 => exact mem_all3 (cls_ne (by decide)) (cls_ne (by decide)) (cls_ne (by decide))
      case u5 => k_mem
      simp only [List.cons_append, List.nil_append]
      clear F N
      k_steps
      unfold Stop
      refine wpAny_If ?_
      refine cond_W (b0 := need sg false r) ?_ ?_
      · cases r with
        | leaf lw lo =>
          obtain ⟨t2, vv, e0⟩ := Sr
          rename News _ _ _ _ => N
          rw [e0] at N
          clear e0
          k_steps
          exact ⟨rfl, _, rfl⟩
        | node ps l1 l2 =>
          obtain ⟨t2, av, bv, e0⟩ := Sr
          rename News _ _ _ _ => N
          rw [e0] at N
          clear e0
          k_steps
          unfold Stop
          cases c1 : lessS ps sg
          · k_steps
            unfold Stop
            cases c2 : (ps == sg)
            · k_steps
              exact ⟨by simp only [need, c1, c2]; rfl, _, rfl⟩
            · cases c3 : ((ps == ("^" : PySem.Str)) == ((2 : Int) == 1))
              · k_steps
                exact ⟨by simp only [need, c1, c2, Bool.false_or, Bool.true_and]; exact c3.symm, _, rfl⟩
              · k_steps
                exact ⟨by simp only [need, c1, c2, Bool.false_or, Bool.true_and]; exact c3.symm, _, rfl⟩
          · k_steps
            exact ⟨by simp only [need, c1]; rfl, _, rfl⟩
      · intro tk5
        rename Fr _ _ _ _ => F
        rename News _ _ _ _ => N
        refine if_mid (H0 := s.heap) ((if need sg false r then ([("(" : PySem.Str)] ++ (tell r (way2 path sg ++ "(")).1 ++ [(")" : PySem.Str)], (tell r (way2 path sg ++ "(")).2) else tell r (way2 path sg)).1) ((if need sg false r then ([("(" : PySem.Str)] ++ (tell r (way2 path sg ++ "(")).1 ++ [(")" : PySem.Str)], (tell r (way2 path sg ++ "(")).2) else tell r (way2 path sg)).2) F N (fun hb => ?_) (fun hb => ?_) ?_
        · k_steps
          unfold Stop
          rename Gnd w s.heap _ _ => GN
          rename Fr _ _ _ _ => F
          rename News _ _ _ _ => N
          have kk := gnd_keeps GN F.keep hn (mem_all3 (N (q, _) (by k_mem)).1 (N (lq, _) (by k_mem)).1 (N (rq, _) (by k_mem)).1)
          refine tell_W IH hr hro B0 (k0.trans kk) (Hr.keeps kk) (by rw [Str_len, Str_len, mul_1, len_lp]; omega) F N (hle _) (fun h1 q1 w1 t1 wv1 tv1 kw1 kt1 R1 tk1 F1 N1 k1 rt1 rn1 a1 e1 => ?_)
          have sz1 : wv1.size ≤ 1000 := by rw [a1.size]; exact (Nat.le_of_lt (hW2 _))
          have st1 : tv1.size ≤ 1000 := by rw [e1.size]; exact (Nat.le_of_lt (hT2 _))
          simp only [List.cons_append, List.nil_append, List.append_assoc] at N1
          have ro1 : ∀ p ∈ R1, s.heap.get? p.1 = none := fun p hp => none_back kk (rn1 p hp)
          clear F N kk k1 rn1
          k_steps
          rename Fr _ _ _ _ => F
          rename News _ _ _ _ => N
          exact mid_intro (ex := [_, _, _, _, _, _, _]) F rfl rfl (fun y a b => by simp [a, b]) N (.head _) (by k_mem) rt1 ro1 (by rw [if_pos hb]; exact ((ArrIs.one ⟨_, rfl⟩).append a1).append (ArrIs.one ⟨_, rfl⟩)) (by rw [if_pos hb]; exact e1)
        · k_steps
          unfold Stop
          rename Gnd w s.heap _ _ => GN
          rename Fr _ _ _ _ => F
          rename News _ _ _ _ => N
          have kk := gnd_keeps GN F.keep hn (mem_all3 (N (q, _) (by k_mem)).1 (N (lq, _) (by k_mem)).1 (N (rq, _) (by k_mem)).1)
          refine tell_W IH hr hro B0 (k0.trans kk) (Hr.keeps kk) (by rw [Str_len, mul_1]; omega) F N (hle _) (fun h1 q1 w1 t1 wv1 tv1 kw1 kt1 R1 tk1 F1 N1 k1 rt1 rn1 a1 e1 => ?_)
          have sz1 : wv1.size ≤ 1000 := by rw [a1.size]; exact (Nat.le_of_lt (hW2 _))
          have st1 : tv1.size ≤ 1000 := by rw [e1.size]; exact (Nat.le_of_lt (hT2 _))
          simp only [List.cons_append, List.nil_append, List.append_assoc] at N1
          have ro1 : ∀ p ∈ R1, s.heap.get? p.1 = none := fun p hp => none_back kk (rn1 p hp)
          clear F N kk k1 rn1
          k_steps
          rename Fr _ _ _ _ => F
          rename News _ _ _ _ => N
          exact mid_intro (ex := [_, _, _]) F rfl rfl (fun y a b => by simp [a, b]) N (by k_mem) (by k_mem) rt1 ro1 (by rw [if_neg (ne_true_of_eq_false hb)]; exact a1) (by rw [if_neg (ne_true_of_eq_false hb)]; exact e1)
        · clear F N
          intro h7 tk8 il2 nl2 iv2 nv2 ki2 kn2 R6 F6 N6 rt6 ro6 aW6 aT6
          simp only [List.cons_append, List.nil_append, List.append_assoc] at N6
          refine gen_eq (R5 ++ R6) (fun R7 hR7 => ?_)
          rw [← hR7] at N6
          have szi2 : iv2.size ≤ 2000 := sz_W aW6 (hW2 _) (hW2 _)
          have szn2 : nv2.size ≤ 2000 := sz_T aT6 (hT2 _) (hT2 _)
          k_steps
          rename Fr _ _ _ _ => F
          rename News _ _ _ _ => N
          refine unr_tell (xs := [_, _, _, _, _]) F N ?u1 ?u2 ((hR7 ▸ rt_app rt5 rt6)) ⟨⟨?u5, trivial⟩, ?_⟩
          case u1 => assumption
          case u2 => exact mem_all5 (cls_ne (by decide)) (cls_ne (by decide)) (cls_ne (by decide)) (cls_ne (by decide)) (cls_ne (by decide))
          case u5 => k_mem
          simp only [List.cons_append, List.nil_append]
          clear F N
          k_steps
          rename Gnd w s.heap _ _ => GN
          rename Fr _ _ _ _ => F
          rename News _ _ _ _ => N
          subst hR7
          refine hQ _ _ _ _ _ _ _ _ (R5 ++ R6) _ (node_post (xs := [_, _, _, _, _, _]) GN F N hn ?v1 ?v2 ?v3 (rt_app rt5 rt6) (fun p hp => (List.mem_append.mp hp).elim (ro5 p) (ro6 p)) ?v4 ?v5)
          case v1 => (simp only [List.mem_cons, List.not_mem_nil, or_false]; rintro (q | q | q) <;> exact absurd q (by k_ne))
          case v2 => (simp only [List.mem_cons, List.not_mem_nil, or_false]; rintro (q | q | q) <;> exact absurd q (by k_ne))
          case v3 => (simp only [List.mem_cons, List.not_mem_nil, or_false]; rintro (q | q | q) <;> exact absurd q (by k_ne))
          case v4 => exact (((ArrIs.nil.append ArrIs.nil).append aW5).append (ArrIs.one ⟨_, rfl⟩)).append aW6
          case v5 => exact (((ArrIs.nil (rel := TEv (R5 ++ R6))).append (aT5.mono (TEv.mono fun p hp => List.mem_append_left _ hp))).append (aT6.mono (TEv.mono fun p hp => List.mem_append_right _ hp))).append (ArrIs.one ⟨_, rfl⟩)
end
end
section
open PySem PySem.W PyProof.Rows PySem.Spec PySem.Calls Builtin Builtin.Str
theorem br_len {b : Bool} {W1 : List PySem.Str} {T1 : List TE} {X : List PySem.Str × List TE} {m : Nat} (h1 : W1.length + 5 ≤ 6 * m ∧ T1.length + 1 ≤ 2 * m) (h2 : X.1.length + 5 ≤ 6 * m ∧ X.2.length + 1 ≤ 2 * m) :
    (if b then ([("(" : PySem.Str)] ++ W1 ++ [(")" : PySem.Str)], T1) else X).1.length + 3 ≤ 6 * m ∧ (if b then ([("(" : PySem.Str)] ++ W1 ++ [(")" : PySem.Str)], T1) else X).2.length + 1 ≤ 2 * m := by
  cases b
  · exact ⟨Nat.le_trans (Nat.add_le_add_left (by decide) _) h2.1, h2.2⟩
  · exact ⟨by simp; omega, h1.2⟩
theorem tell_len : ∀ (T : Tr) (p : PySem.Str), (tell T p).1.length + 5 ≤ 6 * 2 ^ T.ht ∧ (tell T p).2.length + 1 ≤ 2 * 2 ^ T.ht
  | .leaf w o, p => ⟨by simp [tell, Tr.ht], by simp [tell, Tr.ht]⟩
  | .node sg l r, p => by
    have e1 : 2 ^ l.ht ≤ 2 ^ (Nat.max l.ht r.ht) := Nat.pow_le_pow_right (by decide) (Nat.le_max_left _ _)
    have e2 : 2 ^ r.ht ≤ 2 ^ (Nat.max l.ht r.ht) := Nat.pow_le_pow_right (by decide) (Nat.le_max_right _ _)
    have a1 := tell_len l (way1 p sg ++ "(")
    have a2 := tell_len l (way1 p sg)
    have b1 := tell_len r (way2 p sg ++ "(")
    have b2 := tell_len r (way2 p sg)
    have e3 : 2 ^ (Nat.max l.ht r.ht + 1) = 2 * 2 ^ (Nat.max l.ht r.ht) := by rw [Nat.pow_succ]; omega
    have A := br_len (b := need sg true l) a1 a2
    have B := br_len (b := need sg false r) b1 b2
    clear a1 a2 b1 b2
    simp only [tell, Tr.ht, e3]
    generalize 2 ^ (Nat.max l.ht r.ht) = M at e1 e2 ⊢
    generalize 2 ^ l.ht = M1 at e1 A
    generalize 2 ^ r.ht = M2 at e2 B
    constructor <;> (simp only [List.length_append, List.length_cons, List.length_nil]; omega)
theorem tell_step {w : World} {d u d' u' N : Nat} (IH : TellAt w d' u' N) (hle : ∀ env, Le ((At d u).deeper env) (At d' u')) (hroom : d < recursionLimit) (hN : N ≤ 4) : TellAt w d u (N + 1) := by
  intro T s g0 v path tp Q E hT ho B0 k0 H hp hQ
  cases T with
  | leaf word o => exact tell_leaf hroom B0 k0 H hQ
  | node sg l r =>
    have hT' : Nat.max l.ht r.ht + 1 ≤ N + 1 := hT
    have hl : l.ht ≤ N := Nat.le_trans (Nat.le_max_left _ _) (Nat.le_of_succ_le_succ hT')
    have hr : r.ht ≤ N := Nat.le_trans (Nat.le_max_right _ _) (Nat.le_of_succ_le_succ hT')
    have el : ∀ {T : Tr}, T.ht ≤ N → 2 ^ T.ht ≤ 16 := fun {T} h => Nat.le_trans (Nat.pow_le_pow_right (by decide) (Nat.le_trans h hN)) (by decide)
    exact tell_node IH hle hroom hl hr ho.1 ho.2.1 ho.2.2 B0 k0 H (by omega)
      (fun p => by have := (tell_len l p).1; have := el hl; omega) (fun p => by have := (tell_len l p).2; have := el hl; omega)
      (fun p => by have := (tell_len r p).1; have := el hr; omega) (fun p => by have := (tell_len r p).2; have := el hr; omega) hQ
theorem tell_zero {w : World} {d u : Nat} (hroom : d < recursionLimit) : TellAt w d u 0 := by
  intro T s g0 v path tp Q E hT ho B0 k0 H hp hQ
  cases T with
  | leaf word o => exact tell_leaf hroom B0 k0 H hQ
  | node sg l r => exact absurd hT (by simp [Tr.ht])
/-- _law_tell, on a formula of height four at most -/
theorem tell_spec (w : World) : TellAt w 460 2600 4 :=
  tell_step (d' := 470) (u' := 2700) (tell_step (d' := 480) (u' := 2800) (tell_step (d' := 490) (u' := 2900) (tell_step (d' := 500) (u' := 3000) (tell_zero (by decide)) (fun _ => le_at rfl rfl rfl) (by decide) (by decide)) (fun _ => le_at rfl rfl rfl) (by decide) (by decide)) (fun _ => le_at rfl rfl rfl) (by decide) (by decide)) (fun _ => le_at rfl rfl rfl) (by decide) (by decide)
end
section
open PySem PySem.W PyProof.Rows PySem.Spec PySem.Calls Builtin Builtin.Str
theorem kw_E6_1 : True := by
  k_with_none
  k_with "execs cons" => ((with_reducible refine seq_cons fun zQ1 ztk zhQ1 => ?_); try dsimp only)
  trivial
/-- the row of each word -/
noncomputable def endsF (wd : Int) : List PySem.Str → PySem.Str → Int → Int → List Int → List Int
  | [], _, _, _, E => E
  | x :: r, prev, row, used, E =>
    if decide (used > 0) && decide (used + 1 + (x.length : Int) > wd) then
      endsF wd r x (row + 1) (0 + (1 + (x.length : Int))) ((if Txt.item prev 0 != ("\"" : PySem.Str) then E.dropLast ++ [row + 1] else E) ++ [row + 1])
    else endsF wd r x row (used + (1 + (x.length : Int))) (E ++ [row])
section
variable {w : World} {s : Shared} {A : Around} {E : Value → Shared → Prop} {g : Heap} {L : Addr} {m : PySem.Str → Option Value} {news news' : List (Addr × Obj)} {I r q : Addr} {n k : Nat} {t u v tk : Tok} {wv : Array Value} {kw : Nat}
theorem rup_size (n : Nat) : Builtin.Range.rangeSize 0 (n : Int) 1 = n := by
  unfold Builtin.Range.rangeSize
  simp
  try omega
theorem rup_small (n : Nat) (hn : n < 1000000) : Builtin.Range.small 0 (n : Int) 1 = true := by
  unfold Builtin.Range.small
  rw [rup_size]
  have e1 : Builtin.Range.rangeFitsLong (n : Int) = true := by unfold Builtin.Range.rangeFitsLong; simp; omega
  have e2 : Builtin.Range.rangeFitsLong 0 = true := by decide
  have e3 : Builtin.Range.rangeFitsLong 1 = true := by decide
  simp [e1, e2, e3]
theorem rup_iter {a b c : Int} {Q : Value → Shared → Prop} (F : Fr g L s.heap m) (N : News g L s.heap news) (hr : s.heap.get? r = some (rngO a b c t u v)) (ha : a = 0) (hb : b = (n : Int)) (hc : c = 1) (hn : n < 1000000)
    (h : ∀ I h', Fr g L h' m → News g L h' ((I, rngI 0 n 1) :: news) → (∀ p ∈ news, p.1 < I) → @LT.lt Nat _ L I → Q (.ref I) { s with heap := h' }) : wpAny (model P0 w) A (pyIter (.ref r)) Q E s := by
  subst ha; subst hb; subst hc
  refine wpAny_pyIter_range (a := 0) (b := n) (c := 1) hr (rup_small n hn) ?_
  rw [rup_size]
  exact h _ _ (F.push _) (News.push F N _) (fun p hp => Heap.lt_size (N p hp).1) F.ns.lt
theorem rup_next {x left : Int} {Q : Option Value → Shared → Prop} (F : Fr g L s.heap m) (N : News g L s.heap news) (U : Upd I (rngI x left 1) (rngI (x + 1) (left - 1) 1) news news') (hn : 0 < left)
    (h : ∀ h' tk u, Fr g L h' m → News g L h' news' → Q (some (.int x u)) { s with heap := h', toks := tk }) : wpAny (model P0 w) A (pyNext (.ref I)) Q E s := by
  have hI := upd_mem U
  refine wpAny_pyNext_range_item (x := x) (left := left) (step := 1) (N _ hI).1 hn (fun h' hit hs => ?_)
  have k : KeepsBut [I] s.heap h' := fun b ob nb e => hs.extBut b ob (fun q => nb (by simp [q])) e
  exact h h' _ _ (fr_but F N hI k) (news_but N U k hit)
theorem rup_end {x left : Int} {Q : Option Value → Shared → Prop} (hh : A.handled = none) (F : Fr g L s.heap m) (N : News g L s.heap ((I, rngI x left 1) :: news)) (hn : left ≤ 0) (hne : ∀ p ∈ news, p.1 ≠ I)
    (h : ∀ h', Fr g L h' m → News g L h' news → Q none { s with heap := h' }) : wpAny (model P0 w) A (pyNext (.ref I)) Q E s := by
  have hI : (I, rngI x left 1) ∈ (I, rngI x left 1) :: news := .head _
  refine wpAny_pyNext_range_end (x := x) (left := left) (step := 1) hh (N _ hI).1 hn (fun h' hs => ?_)
  have k : KeepsBut [I] s.heap h' := fun b ob nb e => hs b ob (fun q => nb (by simp [q])) e
  exact h h' (fr_but F N hI k) fun p hp => ⟨k _ _ (fun q => hne p hp (List.mem_singleton.mp q)) (N p (.tail _ hp)).1, (N p (.tail _ hp)).2⟩
theorem sub_W {value slice : PySem.Expr} {k : Int} {x : Value} {Q : Value → Shared → Prop} (N : News g L s.heap news) (hm : (q, listO wv kw) ∈ news) (h0 : 0 ≤ k) (hfit : k < 2 ^ 63) (hx : wv[k.toNat]? = some x) (h : Q x s)
    (hs : subscripted slice false (.ref q) (.int k u) = operate [.ref q, .int k u] (getItem (.ref q) (.int k u)) := by with_unfolding_all rfl) :
    wpAny (model P0 w) A (subscriptTail value slice (.ref q) (.int k u)) Q E s :=
  have hl := PySem.IsL.isList (n := kw) (N _ hm).1
  tail_any hl.typeIs slot_list_getitem.lookup (wpAny_getItem_list hl h0 hfit hx h) hs
theorem setL_last (x y : Value) : ∀ l : List Value, ki_setL (l ++ [x]) l.length y = some (l ++ [y])
  | [] => rfl
  | a :: l => by show (match ki_setL (l ++ [x]) l.length y with | some q => some (a :: q) | none => none) = _; rw [setL_last x y l]; rfl
theorem set_last {its : Array Value} {x y : Value} {n : Nat} {t : Tok} {Q : Unit → Shared → Prop} (F : Fr g L s.heap m) (N : News g L s.heap news) (U : Upd q (listO (its.push x) n) (listO (its.push y) n) news news') (hz : its.size < 1000000)
    (h : ∀ h', Fr g L h' m → News g L h' news' → Q () { s with heap := h' }) : wpAny (model P0 w) A (setItem (.ref q) (.int (-1) t) y) Q E s := by
  refine ki_setNeg (its := its.push x) (q := (its.push y).toList) (j := its.size) F N (by decide) (by decide) ?_ ?_ U h
  · unfold seqIndex?
    simp
    omega
  · have := setL_last x y its.toList
    simpa using this
end
noncomputable abbrev me (vk : Option Value) (row used ends words width : Value) : PySem.Str → Option Value := fun y => if y = "k" then vk else if y = "row" then some row else if y = "used" then some used else if y = "ends" then some ends else if y = "words" then some words else if y = "width" then some width else none
theorem fr_me {g h : Heap} {L : Addr} {m : PySem.Str → Option Value} {vk : Option Value} {row used ends words width : Value} (F : Fr g L h m) (h1 : m "k" = vk) (h2 : m "row" = some row) (h3 : m "used" = some used) (h4 : m "ends" = some ends) (h6 : m "words" = some words) (h7 : m "width" = some width)
    (h5 : ∀ y : PySem.Str, y ≠ "k" → y ≠ "row" → y ≠ "used" → y ≠ "ends" → y ≠ "words" → y ≠ "width" → m y = none) : Fr g L h (me vk row used ends words width) := by
  have : m = me vk row used ends words width := by
    funext y
    unfold me
    by_cases a : y = "k"
    · rw [if_pos a, a, h1]
    rw [if_neg a]
    by_cases b : y = "row"
    · rw [if_pos b, b, h2]
    rw [if_neg b]
    by_cases c : y = "used"
    · rw [if_pos c, c, h3]
    rw [if_neg c]
    by_cases d : y = "ends"
    · rw [if_pos d, d, h4]
    rw [if_neg d]
    by_cases e : y = "words"
    · rw [if_pos e, e, h6]
    rw [if_neg e]
    by_cases f : y = "width"
    · rw [if_pos f, f, h7]
    rw [if_neg f, h5 y a b c d e f]
  exact this ▸ F
theorem forInvA {w : World} {A : Around} {s : Shared} {env : Env} {target : Expr} {it : Value} {body orelse : List Stmt} {R : Result → Shared → Prop} (I : Nat → Shared → Prop)
    (turn : ∀ n s, I n s → wpAny (model P0 w) A (pyNext it) (fun r s₁ => match r with
      | none => wpAny (model P0 w) A (execs orelse env) (fun f s₃ => R (.ok f) s₃) (fun _ _ => False) s₁
      | some v => wpAny (model P0 w) A (assign target env v) (fun _ s₂ => wpAny (model P0 w) A (execs body env) (fun f s₃ => match f with
          | .next | .cont => Again I n s₃
          | .brk => R (.ok .next) s₃
          | .ret v => R (.ok (.ret v)) s₃) (fun _ _ => False) s₂) (fun _ _ => False) s₁) (fun _ _ => False) s)
    (n : Nat) (h : I n s) (ht : ∀ v, letOwnedTupleGo target it v = pure () := by intro _; rfl) : codeAny (model P0 w) A (.forLoop target it body orelse env) R s :=
  forInv I (fun n s hI => wpAny_mono (turn n s hI) (fun r s₁ hr => by cases r <;> exact hr) fun _ _ e => e) n h ht
theorem lookup2 {y a b : PySem.Str} {v1 v2 : Value} (h1 : y ≠ a) (h2 : y ≠ b) : List.lookup y [(a, v1), (b, v2)] = none := by
  simp [List.lookup, h1, h2, beq_eq_false_iff_ne.mpr h1, beq_eq_false_iff_ne.mpr h2]
theorem fillE6x (w : World) (h : Heap) (X : (Mine.hd.heap_39 w.params).In h) (e : PySem.Challenge.rw_wu0089_01.foot = PySem.Challenge.rw_wu0089_01.foot) : True := by
  revert X e; k_fill; intro _ _; trivial
theorem kw_E6_2 : True := by
  k_with "ktr_enter" => (refine' enter_fn ?q7a ?q7d ?q7e ?q7f ?q7g ?q7h ?q7i ?_ ?q7j ?q7k ?q7b ?q7c; (case q7g => assumption); (case q7a => assumption); (case q7e => k_is); (case q7f => k_is); (case q7d => decide); (case q7h => first | exact BindsTo.of_eq rfl | exact binds_K (Gd.here (by assumption)).X rfl (by k_is) rfl rfl rfl); (case q7j => decide); (case q7i => exact locs rfl); (case q7k => exact rfl); (case q7b => exact rfl); (case q7c => exact rfl); k_whole; rintro zg' zL' zh' zp' zl' zmean' zmg' zmb' zT' zX' zGN zF' zN' zl1 zK1 zhL'; (try dsimp only); (try k_fold))
  k_with "call ref" => (k_here; (with_reducible show wpAny _ _ (call (Value.ref _) _) _ _ _); refine stop ?_)
  k_with "exec For Name Call cons nil" => (k_here; (with_reducible show wpAny _ _ (exec (Stmt.For _ _ _ _ _) _) _ _ _); refine stop ?_)
  k_with "exec If" => (k_here; refine stop ?_)
  k_with "ite" => k_dflt (first | refine ite_pos (by assumption) ?_ | refine ite_neg (ne_true_of_eq_false (by assumption)) ?_ | (k_closed; refine ite_neg (by decide) ?_) | (k_closed; refine ite_pos (by decide) ?_) | refine stop ?_)
  trivial
local macro_rules | `(tactic| k_all) => `(tactic| assumption)

theorem kw_E6_3 : True := by
  k_with "call builtin:list.append" => (k_here; (with_reducible show wpAny _ _ (call (Value.builtin _) [Value.ref _, _]) _ _ _); k_dflt (refine' append_K ?q46a ?q46b ?q46c ?_ ?q46d; (case q46a => k_asm); (case q46b => k_asm); (case q46c => k_upd); (case q46d => assumption); k_whole); intro zh' zF' zN'; (try k_sweep))
  k_with "subscriptTail" => (k_here; (with_reducible show wpAny _ _ (subscriptTail _ _ (Value.ref _) (Value.int _ _)) _ _ _); k_dflt (refine' sub_W ?q62a ?q62f ?q62b ?q62c ?q62d ?_ ?q62e; (case q62a => k_asm); (case q62f => k_mem); (case q62b => omega); (case q62c => omega); (case q62d => assumption); (case q62e => with_unfolding_all rfl); k_whole))
  k_with "subscriptTail Subscript Constant str int" => (k_dflt (refine item_str (by decide) (by omega) (by omega) ?_; intro _))
  k_with "setItem ref int" => (k_here; (with_reducible show wpAny _ _ (setItem (Value.ref _) (Value.int (-1) _) _) _ _ _); k_dflt (refine' set_last ?q64a ?q64b ?q64c ?q64d ?_; (case q64a => k_asm); (case q64b => k_asm); (case q64c => k_upd); (case q64d => assumption); k_whole); intro zh' zF' zN'; (try k_sweep))
  trivial
inductive EInv (s0 : Shared) (g : Heap) (L q el I : Addr) (W : List PySem.Str) (wv : Array Value) (kw : Nat) (wd : Int) (tw : Tok) (E' : List Int) (j : Nat) : Shared → Prop
  | mk (k : Nat) (prev : PySem.Str) (row : Int) (used : Int) (E : List Int) (vk : Option Value) (ev : Array Value) (ke : Nat) (h : Heap) (tk : Nat) (t1 : Tok) (t2 : Tok) : W.length - k < j → k ≤ W.length → endsF wd (W.drop k) prev row used E = E' → E.length = k → 0 ≤ used → used ≤ 1002 * (k : Int) → 1 ≤ row → row ≤ (k : Int) + 1 → (0 < used → ∃ k', k = k' + 1 ∧ W[k']? = some prev) → ArrIs EndV ev E → Fr g L h (me vk (.int row t1) (.int used t2) (.ref el) (.ref q) (.int wd tw)) → News g L h [(I, rngI k ((W.length : Int) - k) 1), (el, listO ev ke), (q, listO wv kw)] → EInv s0 g L q el I W wv kw wd tw E' j ⟨h, s0.gens, s0.drawn, tk, s0.os⟩
theorem e_again {s0 : Shared} {g h : Heap} {L q el I : Addr} {W : List PySem.Str} {wv : Array Value} {kw : Nat} {wd : Int} {tw : Tok} {E' : List Int} {m : PySem.Str → Option Value} {k ke tk j : Nat} {x : PySem.Str} {row used : Int} {E : List Int} {ev : Array Value} {t1 t2 t6 : Tok}
    (F : Fr g L h m) (N : News g L h [(I, rngI ((k : Int) + 1) ((W.length : Int) - k - 1) 1), (el, listO (ev.push (.int row t6)) ke), (q, listO wv kw)]) (hkl : k < W.length) (he : endsF wd (W.drop (k + 1)) x row used (E ++ [row]) = E') (hE : E.length = k)
    (u0 : 0 ≤ used) (u1 : used ≤ 1002 * ((k : Int) + 1)) (r0 : 1 ≤ row) (r1 : row ≤ (k : Int) + 1 + 1) (hx : W[k]? = some x) (AE : ArrIs EndV (ev.push (.int row t6)) (E ++ [row])) (hj : W.length - k < j)
    (h1 : m "row" = some (.int row t1)) (h2 : m "used" = some (.int used t2)) (h3 : m "ends" = some (.ref el)) (h4 : m "words" = some (.ref q)) (h5 : m "width" = some (.int wd tw))
    (h6 : ∀ y : PySem.Str, y ≠ "k" → y ≠ "row" → y ≠ "used" → y ≠ "ends" → y ≠ "words" → y ≠ "width" → m y = none) : Again (EInv s0 g L q el I W wv kw wd tw E') j ⟨h, s0.gens, s0.drawn, tk, s0.os⟩ := by
  refine ⟨W.length - k, hj, .mk (k + 1) x row used (E ++ [row]) (m "k") (ev.push (.int row t6)) ke h tk t1 t2 (Nat.sub_lt_sub_left hkl (Nat.lt_succ_self k)) hkl he (by simp [hE]) u0 ?_ r0 ?_ (fun _ => ⟨k, rfl, hx⟩) AE (fr_me F rfl h1 h2 h3 h4 h5 h6) ?_⟩
  · exact u1
  · exact r1
  · have e : (W.length : Int) - ((k + 1 : Nat) : Int) = (W.length : Int) - k - 1 := by omega
    rw [e]; exact N
inductive MidE (s0 : Shared) (g : Heap) (L q el I : Addr) (wl : Int) (wv : Array Value) (kw : Nat) (wd : Int) (tw t5 : Tok) (k : Nat) (x prev : PySem.Str) (row used : Int) (E : List Int) : Flow → Shared → Prop
  | mk (row2 : Int) (used2 : Int) (E2 : List Int) (ev2 : Array Value) (ke2 : Nat) (h : Heap) (tk : Nat) (t1 : Tok) (t2 : Tok) : (∀ r, endsF wd (x :: r) prev row used E = endsF wd r x row2 (used2 + (1 + (x.length : Int))) (E2 ++ [row2])) → E2.length = k → 0 ≤ used2 → used2 ≤ 1002 * (k : Int) → 1 ≤ row2 → row2 ≤ (k : Int) + 2 → ArrIs EndV ev2 E2 → Fr g L h (me (some (.int k t5)) (.int row2 t1) (.int used2 t2) (.ref el) (.ref q) (.int wd tw)) → News g L h [(I, rngI ((k : Int) + 1) wl 1), (el, listO ev2 ke2), (q, listO wv kw)] → MidE s0 g L q el I wl wv kw wd tw t5 k x prev row used E .next ⟨h, s0.gens, s0.drawn, tk, s0.os⟩
theorem mid_E {w : World} {A : Around} {b0 : Bool} {b1 b2 : List Stmt} {env : Env} {Q : Flow → Shared → Prop} {E : Value → Shared → Prop} {s s0 : Shared} {g h0 : Heap} {L q el I : Addr} {vk : Option Value} {rowv usedv wdv : Value} {wl : Int} {wv : Array Value} {kw : Nat} {wd : Int} {tw t5 : Tok} {k : Nat} {x prev : PySem.Str} {row used : Int} {Ee : List Int}
    (_ : Fr g L h0 (me vk rowv usedv (.ref el) (.ref q) wdv)) (h1 : b0 = true → wpAny (model P0 w) A (execs b1 env) (MidE s0 g L q el I wl wv kw wd tw t5 k x prev row used Ee) (fun _ _ => False) s) (h2 : b0 = false → wpAny (model P0 w) A (execs b2 env) (MidE s0 g L q el I wl wv kw wd tw t5 k x prev row used Ee) (fun _ _ => False) s)
    (hm : ∀ row2 used2 E2 ev2 ke2 h tk t1 t2, (∀ r, endsF wd (x :: r) prev row used Ee = endsF wd r x row2 (used2 + (1 + (x.length : Int))) (E2 ++ [row2])) → E2.length = k → 0 ≤ used2 → used2 ≤ 1002 * (k : Int) → 1 ≤ row2 → row2 ≤ (k : Int) + 2 → ArrIs EndV ev2 E2 → Fr g L h (me (some (.int k t5)) (.int row2 t1) (.int used2 t2) (.ref el) (.ref q) (.int wd tw)) → News g L h [(I, rngI ((k : Int) + 1) wl 1), (el, listO ev2 ke2), (q, listO wv kw)] → Q .next ⟨h, s0.gens, s0.drawn, tk, s0.os⟩) : if b0 = true then wpAny (model P0 w) A (execs b1 env) Q E s else wpAny (model P0 w) A (execs b2 env) Q E s := by
  cases b0
  · rw [if_neg (by decide)]; exact wpAny_mono (h2 rfl) (fun _ _ hM => hM.casesOn (motive := fun f s' _ => Q f s') hm) fun _ _ e => e.elim
  · rw [if_pos rfl]; exact wpAny_mono (h1 rfl) (fun _ _ hM => hM.casesOn (motive := fun f s' _ => Q f s') hm) fun _ _ e => e.elim
section
variable {s0 : Shared} {g h : Heap} {L q el I : Addr} {wl : Int} {W : List PySem.Str} {wv : Array Value} {kw : Nat} {wd : Int} {tw t5 t1 t2 : Tok} {k ke tk : Nat} {x prev : PySem.Str} {row used : Int} {Ee : List Int} {ev : Array Value}
theorem midE_new {E2 : List Int} (eqE : ∀ r, endsF wd (x :: r) prev row used Ee = endsF wd r x (row + 1) (0 + (1 + (x.length : Int))) (E2 ++ [row + 1])) (hE : E2.length = k) (r0 : 1 ≤ row) (r1 : row ≤ (k : Int) + 1) (AE : ArrIs EndV ev E2)
    (F : Fr g L h (me (some (.int k t5)) (.int (row + 1) t1) (.int 0 t2) (.ref el) (.ref q) (.int wd tw))) (N : News g L h [(I, rngI ((k : Int) + 1) wl 1), (el, listO ev ke), (q, listO wv kw)]) : MidE s0 g L q el I wl wv kw wd tw t5 k x prev row used Ee .next ⟨h, s0.gens, s0.drawn, tk, s0.os⟩ :=
  .mk (row + 1) 0 E2 ev ke h tk t1 t2 eqE hE (by omega) (by omega) (by omega) (by omega) AE F N
theorem midE_old (eqE : ∀ r, endsF wd (x :: r) prev row used Ee = endsF wd r x row (used + (1 + (x.length : Int))) (Ee ++ [row])) (hE : Ee.length = k) (u0 : 0 ≤ used) (u1 : used ≤ 1002 * (k : Int)) (r0 : 1 ≤ row) (r1 : row ≤ (k : Int) + 1) (AE : ArrIs EndV ev Ee)
    (F : Fr g L h (me (some (.int k t5)) (.int row t1) (.int used t2) (.ref el) (.ref q) (.int wd tw))) (N : News g L h [(I, rngI ((k : Int) + 1) wl 1), (el, listO ev ke), (q, listO wv kw)]) : MidE s0 g L q el I wl wv kw wd tw t5 k x prev row used Ee .next ⟨h, s0.gens, s0.drawn, tk, s0.os⟩ :=
  .mk row used Ee ev ke h tk t1 t2 eqE hE u0 u1 r0 (by omega) AE F N
theorem arr_at {G : Prop} (AW : ArrIs StrV wv W) (hk : k < W.length) (c : ∀ x xt, W[k]? = some x → W.drop k = x :: W.drop (k + 1) → wv[(k : Int).toNat]? = some (.str x xt) → x ∈ W → G) : G := by
  obtain ⟨x, hx⟩ : ∃ x, W[k]? = some x := ⟨_, List.getElem?_eq_getElem hk⟩
  have hdr : W.drop k = x :: W.drop (k + 1) := by
    rw [List.drop_eq_getElem_cons hk]
    congr 1
    rw [List.getElem?_eq_getElem hk] at hx
    exact Option.some.inj hx
  obtain ⟨xv, hxv, xt, rfl⟩ := AW.at_ k x hx
  exact c x xt hx hdr hxv (List.mem_of_getElem? hx)
theorem prev_at {G : Prop} (AW : ArrIs StrV wv W) (hp : 0 < used → ∃ k', k = k' + 1 ∧ W[k']? = some prev) (hu : 0 < used) (c : ∀ pt, 1 ≤ k → wv[((k : Int) - 1).toNat]? = some (.str prev pt) → prev ∈ W → G) : G := by
  obtain ⟨k', rfl, hpr⟩ := hp hu
  obtain ⟨pv, hpv, pt, rfl⟩ := AW.at_ k' prev hpr
  have : (((k' + 1 : Nat) : Int) - 1).toNat = k' := by omega
  exact c pt (Nat.le_add_left _ _) (by rw [this]; exact hpv) (List.mem_of_getElem? hpr)
theorem last_pop {G : Prop} (AE : ArrIs EndV ev Ee) (hE : Ee.length = k) (h1 : 1 ≤ k) (h2 : k < 1000) (c : ∀ (its : Array Value) (e0 : Int) (t0 : Tok), ev = its.push (.int e0 t0) → its.size < 1000000 → (∀ r t, ArrIs EndV (its.push (.int r t)) (Ee.dropLast ++ [r]) ∧ (Ee.dropLast ++ [r]).length = k) → G) : G := by
  obtain ⟨E0, e0, rfl⟩ : ∃ E0 e0, Ee = E0 ++ [e0] := ⟨Ee.dropLast, Ee.getLast (by intro q; subst q; simp at hE; omega), (List.dropLast_concat_getLast _).symm⟩
  obtain ⟨its, v0, rfl, ⟨v0t, rfl⟩, AE0⟩ := AE.pop
  have hE1 : E0.length + 1 = k := by simpa using hE
  refine c its e0 v0t rfl (by rw [AE0.size]; omega) fun r t => ?_
  rw [List.dropLast_concat]
  exact ⟨AE0.push ⟨_, rfl⟩, by simpa using hE1⟩
theorem forE {w : World} {A : Around} {env : Env} {target : Expr} {body orelse : List Stmt} {R : Result → Shared → Prop} {E' : List Int} (n : Nat) {s' : Shared} (h : EInv s0 g L q el I W wv kw wd tw E' n s')
    (turn : ∀ j k prev row used E vk ev ke h tk t1 t2, W.length - k < j → k ≤ W.length → endsF wd (W.drop k) prev row used E = E' → E.length = k → 0 ≤ used → used ≤ 1002 * (k : Int) → 1 ≤ row → row ≤ (k : Int) + 1 → (0 < used → ∃ k', k = k' + 1 ∧ W[k']? = some prev) → ArrIs EndV ev E →
      Fr g L h (me vk (.int row t1) (.int used t2) (.ref el) (.ref q) (.int wd tw)) → News g L h [(I, rngI k ((W.length : Int) - k) 1), (el, listO ev ke), (q, listO wv kw)] → TurnAt w A env target (.ref I) body orelse R (EInv s0 g L q el I W wv kw wd tw E') j ⟨h, s0.gens, s0.drawn, tk, s0.os⟩)
    (ht : ∀ v, letOwnedTupleGo target (.ref I) v = pure () := by intro _; rfl) : codeAny (model P0 w) A (.forLoop target (.ref I) body orelse env) R s' :=
  forInvA _ (fun j s' hI => hI.casesOn (motive := fun s' _ => TurnAt w A env target (.ref I) body orelse R (EInv s0 g L q el I W wv kw wd tw E') j s') (turn j)) n h ht
end
section
variable {w : World} {s : Shared} {W : List PySem.Str} {wv : Array Value} {kw : Nat} {q : Addr} {wd : Int} {tw : Tok} {Q E : Value → Shared → Prop}
/-- _law_ends -/
theorem ends_spec {g0 : Heap} (B0 : Bs w g0) (k0 : Keeps g0 s.heap) (n0 : g0.get? q = none) (hq : s.heap.get? q = some (listO wv kw)) (AW : ArrIs StrV wv W) (hl : W.length < 1000) (hw : ∀ x ∈ W, 1 ≤ x.length ∧ x.length ≤ 1000) (hwd : wd ≤ 1000)
    (hQ : ∀ h' el ev ke tk, Keeps s.heap h' → h'.get? el = some (listO ev ke) → s.heap.get? el = none → ArrIs EndV ev (endsF wd W "" 1 0 []) → Q (.ref el) { s with heap := h', toks := tk }) :
    wpAny (model P0 w) (At 460 2600) (call (.ref 330) [.ref q, .int wd tw]) Q E s := by
  have hn : ∀ p ∈ [(q, listO wv kw)], s.heap.get? p.1 = some p.2 := by
    intro p hp; rw [List.mem_singleton.mp hp]; exact hq
  have G : Gd w s.heap [q] := Gd.of B0 k0 (all1 n0)
  have hsz := AW.size
  refine wpAny_call ?_
  k_dflt ktr_enter
  k_steps
  unfold Stop
  refine wpAny_For ?_
  k_steps
  rename Gnd w s.heap _ _ => GN
  rename Fr _ _ _ _ => F
  rename News _ _ _ _ => N
  have hel := (N (_, listO #[] 0) (by k_mem))
  have hlt := (‹@LT.lt Nat _ _ _›)
  refine rup_iter (n := W.length) F N (‹IsRange _ _ _ _ _ _ _ _›) rfl (by first | rfl | rw [hsz] | simp [hsz]) rfl (by omega) (fun I h3 F3 N3 l3 lI => ?_)
  k_lt l3
  have F4 := fr_me (vk := none) F3 rfl rfl rfl rfl rfl rfl (fun y a b c d e f => by rw [if_neg c, if_neg b, if_neg d]; exact lookup2 f e)
  refine forE (s0 := s) (wv := wv) (kw := kw) (E' := endsF wd W "" 1 0 []) (W.length + 1) (.mk 0 "" 1 0 [] none #[] 0 h3 _ _ _ (by omega) (by omega) rfl rfl (by omega) (by omega) (by omega) (by omega) (fun h => absurd h (by omega)) ArrIs.nil F4 fun p hp => N3 p (by rw [show (W.length : Int) - ((0 : Nat) : Int) = W.length from Int.sub_zero _] at hp; exact hp)) ?_
  · clear F N F3 N3 F4 hel
    intro j k prev row used E vk ev ke h tk t1 t2 hj hk he hE u0 u1 r0 r1 hp AE F N
    have hez : ev.size ≤ sizeLine := by rw [AE.size, hE]; exact Nat.le_trans hk (Nat.le_of_lt (Nat.lt_of_lt_of_le hl (by decide)))
    rcases Nat.lt_or_ge k W.length with hkl | hkl
    · refine arr_at AW hkl (fun x xt hx hdr hxi hxm => ?_)
      have hxl := hw x hxm
      rw [hdr] at he
      clear hdr hxm
      refine rup_next F N (by k_upd) (by omega) (fun h1 tk1 t5 F1 N1 => ?_)
      clear F N
      refine wpAny_assign_Name ?_
      k_steps
      unfold Stop
      refine wpAny_If ?_
      rename Fr _ _ _ _ => F
      rename News _ _ _ _ => N
      have F0 := fr_me F rfl rfl rfl rfl rfl rfl (fun y a b c d e f => by simp [me, a, b, c, d, e, f])
      refine cond_N (b0 := decide (used > 0) && decide (used + 1 + (x.length : Int) > wd)) F0 N ?_ (fun h5 tk5 F5 N5 => ?_)
      · cases c1 : decide (used > 0)
        · k_steps
          rename Fr _ _ _ _ => F
          rename News _ _ _ _ => N
          exact ⟨rfl, _, _, rfl, F, N⟩
        · cases c2 : decide (used + 1 + (x.length : Int) > wd)
          · k_steps
            rename Fr _ _ _ _ => F
            rename News _ _ _ _ => N
            exact ⟨rfl, _, _, rfl, F, N⟩
          · k_steps
            rename Fr _ _ _ _ => F
            rename News _ _ _ _ => N
            exact ⟨rfl, _, _, rfl, F, N⟩
      clear F N
      refine mid_E (s0 := s) (I := I) (wl := (W.length : Int) - k - 1) (wv := wv) (kw := kw) (wd := wd) (tw := tw) (t5 := t5) (k := k) (x := x) (prev := prev) (row := row) (used := used) (Ee := E) F0 (fun hb => ?_) (fun hb => ?_) ?_
      · clear F0
        have hu : 0 < used := of_decide_eq_true (Bool.and_eq_true_iff.mp hb).1
        refine prev_at AW hp hu (fun pt hk1 hpi hpm => ?_)
        have hpl := hw prev hpm
        have eqE : ∀ r, endsF wd (x :: r) prev row used E = endsF wd r x (row + 1) (0 + (1 + (x.length : Int))) ((if Txt.item prev 0 != ("\"" : PySem.Str) then E.dropLast ++ [row + 1] else E) ++ [row + 1]) := fun r => if_pos hb
        refine last_pop AE hE hk1 (Nat.lt_trans hkl hl) (fun its e0 v0t eV hsz2 AE0 => ?_)
        rename News _ _ _ _ => N
        rw [eV] at N AE hez
        clear eV
        cases c3 : (Txt.item prev 0 != ("\"" : PySem.Str))
        · k_steps
          unfold Stop
          refine wpAny_If ?_
          k_steps
          rename Fr _ _ _ _ => F
          rename News _ _ _ _ => N
          exact midE_new (fun r => by rw [eqE r, c3]; rfl) hE r0 r1 AE (fr_me F rfl rfl rfl rfl rfl rfl (fun y a b c d e f => by simp [me, a, b, c, d, e, f])) N
        · k_steps
          unfold Stop
          refine wpAny_If ?_
          k_steps
          rename Fr _ _ _ _ => F
          rename News _ _ _ _ => N
          exact midE_new (fun r => by rw [eqE r, c3]; rfl) (AE0 (row + 1) 0).2 r0 r1 (AE0 _ _).1 (fr_me F rfl rfl rfl rfl rfl rfl (fun y a b c d e f => by simp [me, a, b, c, d, e, f])) N
      · clear F0
        k_steps
        rename Fr _ _ _ _ => F
        rename News _ _ _ _ => N
        exact midE_old (fun r => if_neg (ne_true_of_eq_false hb)) hE u0 u1 r0 r1 AE F N
      · clear F5 N5 F0
        intro row2 used2 E2 ev2 ke2 h6 tk6 t6 t7 eqE hE2 v0 v1 v2 v3 AE2 F6 N6
        have hez : ev2.size ≤ sizeLine := by rw [AE2.size, hE2]; exact Nat.le_trans hk (Nat.le_of_lt (Nat.lt_of_lt_of_le hl (by decide)))
        rw [eqE] at he
        k_steps
        rename Fr _ _ _ _ => F
        rename News _ _ _ _ => N
        exact e_again F N hkl he hE2 (by omega) (by omega) (by omega) (by omega) hx (AE2.push ⟨_, rfl⟩) hj rfl rfl rfl rfl rfl (fun y a b c d e f => by simp [me, a, b, c, d, e, f])
    · have hk0 : k = W.length := Nat.le_antisymm hk hkl
      subst hk0
      have hdn : W.drop W.length = [] := List.drop_length
      rw [hdn] at he
      refine rup_end rfl F N (by omega) (by intro p hp; simp only [List.mem_cons, List.not_mem_nil, or_false] at hp; rcases hp with rfl | rfl <;> k_ne) (fun h1 F1 N1 => ?_)
      clear F N
      k_steps
      rename Fr _ _ _ _ => F
      rename News _ _ _ _ => N
      have e1 := N (_, listO ev ke) (by k_mem)
      refine hQ _ _ _ _ _ (gnd_keeps GN F.keep hn (all_one (N (q, _) (by k_mem)).1)) e1.1 (GN.fresh _ e1.2.2 ?_) (by rw [← he]; exact AE)
      simp only [List.map_cons, List.map_nil, List.mem_cons, List.not_mem_nil, or_false]
      rintro e; exact absurd e (by k_ne)
end
end
section
/-- a text's signs -/
noncomputable abbrev cd (x : PySem.Str) : List Nat := x.cps.toList
theorem cd_add (x y : PySem.Str) : cd (x ++ y) = cd x ++ cd y := by
  show (x ++ y).cps.toList = _
  rw [Str.cps_append, Array.toList_append]
theorem cd_inj {x y : PySem.Str} (h : cd x = cd y) : x = y := by
  obtain ⟨a⟩ := x; obtain ⟨b⟩ := y
  exact congrArg _ (Array.toList_inj.mp h)
theorem cd_sg (c : Nat) : cd (sg1 c) = [c] := rfl
theorem cd_e : cd ("" : PySem.Str) = [] := by decide +kernel
theorem cd_len (x : PySem.Str) : (cd x).length = x.length := rfl
/-- a text from its signs -/
noncomputable abbrev ofC (l : List Nat) : PySem.Str := ⟨l.toArray⟩
theorem cd_of (l : List Nat) : cd (ofC l) = l := rfl
theorem of_cons (a : PySem.Str) (c : Nat) (l : List Nat) : a ++ sg1 c ++ ofC l = a ++ ofC (c :: l) := cd_inj (by simp only [cd_add, cd_sg, cd_of]; simp)
theorem of_nil (a : PySem.Str) : a ++ ofC [] = a := cd_inj (by simp only [cd_add, cd_of]; simp)
theorem of_e (l : List Nat) : ("" : PySem.Str) ++ ofC l = ofC l := cd_inj (by rw [cd_add, cd_e]; rfl)
theorem inWs_iff : ∀ c : Nat, c < 128 → inWs c = (c == 10 || c == 9 || c == 13 || c == 32) := by
  decide +kernel
noncomputable def escQ : List Nat → List Nat
  | [] => []
  | c :: r => if c = 92 ∨ c = 34 then 92 :: c :: escQ r else c :: escQ r
noncomputable def escB : List Nat → List Nat
  | [] => []
  | c :: r => if c = 92 ∨ c = 34 ∨ c = 32 then 92 :: c :: escB r else c :: escB r
theorem lnN_ne {c : Nat} {r : List Nat} {n : Int} (h : c ≠ 10) : lnN (c :: r) n = n := lnN_10 h
theorem quot_esc : ∀ (l r : List Nat) (n : Int) (a : PySem.Str), (∀ c ∈ l, c ≠ 10) → QuotR (escQ l ++ 34 :: r) n a (a ++ ofC l) r n
  | [], r, n, a, _ => by rw [of_nil]; exact .close
  | c :: l, r, n, a, h => by
    have hc : c ≠ 10 := h c (.head _)
    have ih := quot_esc l r n (a ++ sg1 c) fun d hd => h d (.tail _ hd)
    rw [of_cons] at ih
    unfold escQ
    by_cases q : c = 92 ∨ c = 34
    · rw [if_pos q]
      refine .esc ?_
      show QuotR (escQ l ++ 34 :: r) (lnN (c :: (escQ l ++ 34 :: r)) n) (a ++ sg1 c) _ _ _
      rw [lnN_ne hc]; exact ih
    · rw [if_neg q]
      refine .sgn (fun e => q (.inr e)) (fun e => q (.inl e)) ?_
      rw [lnN_ne hc]; exact ih
/-- signs that a word may hold: none of the rows' own -/
noncomputable def Cl (l : List Nat) : Prop := ∀ c ∈ l, c ≠ 10 ∧ c ≠ 9 ∧ c ≠ 13 ∧ c < 128
theorem bare_esc {tok : PySem.Str} {r r' : List Nat} {n n' : Int} : ∀ (l : List Nat) (a : PySem.Str), Cl l → BareR r n (a ++ ofC l) tok r' n' → BareR (escB l ++ r) n a tok r' n'
  | [], a, _, B => by rw [of_nil] at B; exact B
  | c :: l, a, h, B => by
    have hc := h c (.head _)
    rw [← of_cons] at B
    have ih := bare_esc l (a ++ sg1 c) (fun d hd => h d (.tail _ hd)) B
    unfold escB
    by_cases q : c = 92 ∨ c = 34 ∨ c = 32
    · rw [if_pos q]
      refine .esc ?_
      show BareR (escB l ++ r) (lnN (c :: (escB l ++ r)) n) (a ++ sg1 c) _ _ _
      rw [lnN_ne hc.1]; exact ih
    · rw [if_neg q]
      refine .sgn ?_ (fun e => q (.inl e)) ?_
      · rw [inWs_iff c hc.2.2.2]; simp only [Bool.or_eq_false_iff, beq_eq_false_iff_ne]
        exact ⟨⟨⟨hc.1, hc.2.1⟩, hc.2.2.1⟩, fun e => q (.inr (.inr e))⟩
      · rw [lnN_ne hc.1]; exact ih
/-- how a word is spelt, and what is read of it -/
inductive Sp : Bool → List Nat → PySem.Str → Prop
  | quot {l : List Nat} : Cl l → Sp true (34 :: (escQ l ++ [34])) (ofC l)
  | bare {c : Nat} {l : List Nat} : Cl (c :: l) → c ≠ 34 → c ≠ 92 → c ≠ 32 → Sp false (escB (c :: l)) (ofC (c :: l))
theorem Sp.quot_tok {cs : List Nat} {tok : PySem.Str} (S : Sp true cs tok) (r : List Nat) (n : Int) : TokR (cs ++ r) n tok r n := by
  cases S with
  | quot h =>
    rename_i l
    refine .quot ?_
    have := quot_esc l r n "" fun c hc => (h c hc).1
    rw [of_e] at this
    simpa using this
theorem Sp.bare_of {cs : List Nat} {tok : PySem.Str} {r r' : List Nat} {n n' : Int} (S : Sp false cs tok) (B : BareR r n tok tok r' n') : TokR (cs ++ r) n tok r' n' := by
  cases S with
  | bare h h1 h2 h3 =>
    rename_i c l
    have hc := h c (.head _)
    have e : escB (c :: l) = c :: escB l := (if_neg (by rintro (q | q | q); exact h2 q; exact h1 q; exact h3 q) : (if c = 92 ∨ c = 34 ∨ c = 32 then 92 :: c :: escB l else c :: escB l) = c :: escB l)
    rw [e]
    refine .bare ?_ h1 h2 ?_
    · rw [inWs_iff c hc.2.2.2]; simp only [Bool.or_eq_false_iff, beq_eq_false_iff_ne]
      exact ⟨⟨⟨hc.1, hc.2.1⟩, hc.2.2.1⟩, h3⟩
    · show BareR (escB l ++ r) (lnN (c :: (escB l ++ r)) n) _ _ _ _
      rw [lnN_ne hc.1]
      refine bare_esc l _ (fun d hd => h d (.tail _ hd)) ?_
      have : "" ++ sg1 c ++ ofC l = ofC (c :: l) := by rw [of_cons, of_e]
      rw [this]; exact B
theorem Sp.bare_end {cs : List Nat} {tok : PySem.Str} (S : Sp false cs tok) (n : Int) : TokR cs n tok [] n := by
  have := S.bare_of (r := []) (n := n) .fin
  simpa using this
theorem Sp.bare_ws {cs : List Nat} {tok : PySem.Str} (S : Sp false cs tok) {c : Nat} (hc : inWs c = true) (r : List Nat) (n : Int) : TokR (cs ++ c :: r) n tok r (lnN (c :: r) n) := S.bare_of (.ws hc)
theorem tok_blank {r r' : List Nat} {n n' : Int} {tok : PySem.Str} (T : TokR r n tok r' n') : TokR (32 :: r) n tok r' n' := .ws (by decide +kernel) (by rw [lnN_ne (by decide)]; exact T)
theorem lnN_nl (r : List Nat) (n : Int) : lnN (10 :: r) n = n + 1 := by unfold lnN; rw [if_pos]; show (sg1 10 == ("\n" : PySem.Str)) = true; decide +kernel
theorem tok_nl {r r' : List Nat} {n n' : Int} {tok : PySem.Str} (T : TokR r (n + 1) tok r' n') : TokR (10 :: r) n tok r' n' := .ws (by decide +kernel) (by rw [lnN_nl]; exact T)
end
section
open PySem PySem.W PyProof.Rows PySem.Spec PySem.Calls Builtin Builtin.Str
/-- words read one after the other -/
inductive Run : List PySem.Str → List PySem.Str → List TE → List PySem.Str → List TE → Prop
  | nil {P : List PySem.Str} {T : List TE} : Run [] P T P T
  | cons {x : PySem.Str} {ws P P1 P' : List PySem.Str} {T T1 T' : List TE} : x.length < 1000 → T.length < 1000 → P.length < 1000 → (x != ("" : PySem.Str)) = true → StepR x P T P1 T1 → Run ws P1 T1 P' T' → Run (x :: ws) P T P' T'
theorem Run.app {ws ws' P P1 P' : List PySem.Str} {T T1 T' : List TE} (a : Run ws P T P1 T1) (b : Run ws' P1 T1 P' T') : Run (ws ++ ws') P T P' T' := by
  induction a with
  | nil => exact b
  | cons h1 h2 h3 h4 h5 _ ih => exact .cons h1 h2 h3 h4 h5 (ih b)
theorem Run.one {x : PySem.Str} {P P' : List PySem.Str} {T T' : List TE} (h1 : x.length < 1000) (h2 : T.length < 1000) (h3 : P.length < 1000) (h4 : (x != ("" : PySem.Str)) = true) (h5 : StepR x P T P' T') : Run [x] P T P' T' := .cons h1 h2 h3 h4 h5 .nil
theorem join_cd : ∀ l : List PySem.Str, cd (Txt.join "" l) = l.flatMap cd := by
  intro l
  show cd (glued ("" : PySem.Str) l) = _
  rw [StrLaws.glued_eq_join]
  induction l with
  | nil => rfl
  | cons x r ih =>
    cases r with
    | nil => show cd x = _; simp
    | cons y r =>
      show cd (x ++ "" ++ Str.join "" (y :: r)) = _
      rw [cd_add, cd_add, cd_e, ih]
      simp
/-- the pile's text -/
noncomputable abbrev txt (P : List PySem.Str) : PySem.Str := catAll (rowsOf P)
theorem txt_cd (P : List PySem.Str) : cd (txt P) = P.flatMap cd := by
  show cd (Txt.join "" _) = _
  rw [join_cd, List.flatMap_map, List.flatMap_map]
  congr 1
  funext p
  show cd (("" : PySem.Str) ++ p) = _
  rw [cd_add, cd_e]; rfl
theorem txt_add (P : List PySem.Str) (x : PySem.Str) : txt (P ++ [x]) = txt P ++ x := cd_inj (by rw [cd_add, txt_cd, txt_cd, List.flatMap_append]; simp)
theorem small_of {P : List PySem.Str} (h1 : P.length < 1000) (h2 : ∀ x ∈ P, x.length ≤ 1) : Small (rowsOf P) := by
  refine ⟨by rw [List.length_map]; omega, fun p hp => ?_, ?_⟩
  · obtain ⟨x, hx, rfl⟩ := List.mem_map.mp hp
    exact ⟨(by decide +kernel : ("" : PySem.Str).length < 1000000), Nat.lt_of_le_of_lt (h2 x hx) (by decide)⟩
  · have : ∀ l : List PySem.Str, (∀ x ∈ l, x.length ≤ 1) → (((rowsOf l).map cat1).map (·.length)).sum ≤ l.length := by
      intro l
      induction l with
      | nil => intro _; exact Nat.le_refl _
      | cons x r ih =>
        intro h
        have := ih fun y hy => h y (.tail _ hy)
        have q := h x (.head _)
        show (("" : PySem.Str) ++ x).length + (((rowsOf r).map cat1).map (·.length)).sum ≤ r.length + 1
        rw [Str_len, e_len]
        omega
    exact Nat.le_trans (this P h2) (by omega)
noncomputable def Sgn (s : PySem.Str) : Prop := s = "-" ∨ s = "/" ∨ s = "^"
/-- comes off before x -/
noncomputable def pops (x o : PySem.Str) : Bool := decide (collN o x > 0) || ((o == x) && (x != ("^" : PySem.Str)))
noncomputable def topO (v : PySem.Str) : List PySem.Str → PySem.Str
  | [] => v
  | o :: _ => o
noncomputable def below (P : List PySem.Str) (v : PySem.Str) : List PySem.Str → List PySem.Str
  | [] => P
  | _ :: r => below P v r ++ [topO v r]
theorem below_top (P : List PySem.Str) (v : PySem.Str) : ∀ r, below P v r ++ [topO v r] = P ++ [v] ++ r.reverse
  | [] => by simp [below, topO]
  | o :: r => by
    show below P v r ++ [topO v r] ++ [o] = _
    rw [below_top P v r]; simp
theorem below_len (P : List PySem.Str) (v : PySem.Str) : ∀ r, (below P v r).length = P.length + r.length
  | [] => rfl
  | o :: r => by
    show (below P v r ++ [topO v r]).length = _
    rw [List.length_append, below_len P v r]; simp; omega
theorem pop_all {x v : PySem.Str} {P : List PySem.Str} (hv : pops x v = false) : ∀ (r : List PySem.Str) (T : List TE), (∀ o ∈ r, pops x o = true) → T.length + P.length + r.length < 1000 → PopT x (topO v r) (below P v r) T P (T ++ r.map .sgn) v
  | [], T, _, hz => by
    simp only [pops, Bool.or_eq_false_iff] at hv
    rw [show T ++ ([] : List PySem.Str).map TE.sgn = T by simp]
    show PopT x v P T P T v
    cases e : (v == x)
    · exact .stop1 hv.1 e
    · have := hv.2; rw [e, Bool.true_and] at this
      exact .stop2 hv.1 e this
  | o :: r, T, h, hz => by
    have hz' : T.length + P.length + (r.length + 1) < 1000 := hz
    have ho := h o (.head _)
    have ih := pop_all (P := P) hv r (T ++ [.sgn o]) (fun q hq => h q (.tail _ hq)) (by rw [List.length_append]; simp; omega)
    rw [List.append_assoc] at ih
    have hb : (below P v r).length < 1000 := by rw [below_len]; omega
    simp only [pops, Bool.or_eq_true] at ho
    show PopT x o (below P v r ++ [topO v r]) T P (T ++ .sgn o :: r.map .sgn) v
    cases e : decide (collN o x > 0)
    · rw [e] at ho
      rcases ho with ho | ho
      · cases ho
      · obtain ⟨h1, h2⟩ := Bool.and_eq_true_iff.mp ho
        exact .pop2 e h1 h2 (by omega) hb ih
    · exact .pop1 e (by omega) hb ih
/-- a leaf's text, as it is read -/
inductive LeafR : PySem.Str → OV → Prop
  | port {x : PySem.Str} {n R : Int} {p0 p1 p2 p3 p4 : PySem.Str} : S229 x = true → Is229 x n R p0 p1 p2 p3 p4 → x.length < 1000 → (x != ("" : PySem.Str)) = true → LeafR x (.num n)
  | name {x d : PySem.Str} : S229 x = false → S257 x = true → x.length < 1000 → (x != ("" : PySem.Str)) = true → (Txt.slice x none (some 3) != ("257" : PySem.Str)) = false → (Txt.slice x (some 3) (some 5) != (" \"" : PySem.Str)) = false → (5 : Int) ≤ x.length → P257 x 5 "" d → LeafR x (.nam d)
noncomputable def Tr.rd : Tr → Prop
  | .leaf x o => LeafR x o
  | .node sg l r => Sgn sg ∧ l.rd ∧ r.rd
noncomputable def fits (v : PySem.Str) : Tr → Prop
  | .leaf _ _ => True
  | .node sg _ _ => pops sg v = false
theorem step_leaf {x : PySem.Str} {o : OV} {P : List PySem.Str} {T : List TE} (L : LeafR x o) (hP : P.length < 1000) (hT : T.length < 1000) (h1 : ∀ x ∈ P, x.length ≤ 1) : Run [x] P T P (T ++ [TE.of (txt P) o]) := by
  cases L with
  | port a b c d => exact .one c hT hP d (.port a b c (small_of hP h1) hT)
  | name a b c d e f g h => exact .one c hT hP d (.name a b c e f g h (small_of hP h1) hT)
theorem step_lp {P : List PySem.Str} {T : List TE} (hP : P.length < 1000) (hT : T.length < 1000) : Run [("(" : PySem.Str)] P T (P ++ [("(" : PySem.Str)]) T :=
  .one (by decide +kernel) hT hP (by decide +kernel) (.lp (by decide +kernel) (by decide +kernel) (by decide +kernel) hP)
theorem rp_pops : ∀ {o}, Sgn o → pops ")" o = true := by
  rintro o (rfl | rfl | rfl) <;> decide +kernel
theorem step_rp {P : List PySem.Str} {T : List TE} {r : List PySem.Str} (hr : ∀ o ∈ r, Sgn o) (hz : T.length + P.length + r.length < 990) : Run [(")" : PySem.Str)] (P ++ [("(" : PySem.Str)] ++ r.reverse) T P (T ++ r.map .sgn) := by
  have e := below_top P "(" r
  rw [← e]
  refine .one (by decide +kernel) (by omega) ?_ (by decide +kernel) (.close (by decide +kernel) (by decide +kernel) (by decide +kernel) ?_ (pop_all (v := "(") (by decide +kernel) r T (fun o ho => rp_pops (hr o ho)) (by omega)) (by decide +kernel))
  · rw [e]; simp; omega
  · rw [below_len]; omega
theorem sgn_facts : ∀ {x}, Sgn x → x.length < 1000 ∧ x.length ≤ 1 ∧ (x != ("" : PySem.Str)) = true ∧ S229 x = false ∧ S257 x = false ∧ (x == ("(" : PySem.Str)) = false ∧ (x != (")" : PySem.Str)) = true ∧ pops x "(" = false := by
  rintro x (rfl | rfl | rfl) <;> decide +kernel
theorem step_sgn {x v : PySem.Str} {P : List PySem.Str} {T : List TE} {r : List PySem.Str} (hx : Sgn x) (hv : pops x v = false) (hr : ∀ o ∈ r, pops x o = true) (hz : T.length + P.length + r.length < 990) : Run [x] (P ++ [v] ++ r.reverse) T (P ++ [v] ++ [x]) (T ++ r.map .sgn) := by
  have e := below_top P v r
  obtain ⟨f1, f0, f2, f3, f4, f5, f6, _⟩ := sgn_facts hx
  rw [← e, List.append_assoc P]
  refine .one f1 (by omega) ?_ f2 (.sign f3 f4 f5 ?_ (pop_all hv r T hr (by omega)) f6 (by omega))
  · rw [e]; simp; omega
  · rw [below_len]; omega
theorem tell_len2 : ∀ (T : Tr) (p : PySem.Str), (tell T p).2.length ≤ (tell T p).1.length
  | .leaf _ _, _ => by simp [tell]
  | .node sg l r, p => by
    have a1 := tell_len2 l (way1 p sg ++ "(")
    have a2 := tell_len2 l (way1 p sg)
    have b1 := tell_len2 r (way2 p sg ++ "(")
    have b2 := tell_len2 r (way2 p sg)
    simp only [tell]
    simp only [List.length_append, List.length_cons, List.length_nil]
    split <;> split <;> (try simp only [List.length_append, List.length_cons, List.length_nil]) <;> omega
/-- a formula without brackets of its own is read: what is told, and the signs that wait on the pile -/
structure Rd (T : Tr) (p : PySem.Str) (P : List PySem.Str) (Tl : List TE) : Prop where
  ex : ∃ (ops : List PySem.Str) (tl : List TE), Run (tell T p).1 P Tl (P ++ ops.reverse) (Tl ++ tl) ∧ (tell T p).2 = tl ++ ops.map .sgn ∧ (∀ o ∈ ops, Sgn o) ∧ ∀ x, Sgn x → need x true T = false → ∀ o ∈ ops, pops x o = true
theorem w1 (p sg : PySem.Str) : way1 p sg = p := by
  show p ++ Txt.mul sg (1 - 1) = p
  rw [show Txt.mul sg (1 - 1) = "" from rfl]
  exact cd_inj (by rw [cd_add, cd_e]; simp)
theorem w2 (p : PySem.Str) {sg : PySem.Str} (h : Sgn sg) : way2 p sg = p ++ sg := by
  show p ++ Txt.mul sg (2 - 1) = _
  have : Txt.mul sg (2 - 1) = sg := by rcases h with rfl | rfl | rfl <;> decide +kernel
  rw [this]
theorem fits_left {v sg : PySem.Str} {l : Tr} (hl : l.rd) (hs : Sgn sg) (hv : v = "(" ∨ Sgn v) (h : pops sg v = false) (n : need sg true l = false) : fits v l := by
  cases l with
  | leaf _ _ => trivial
  | node ps a b =>
    have hp := hl.1
    show pops ps v = false
    revert h n
    show pops sg v = false → (lessS ps sg || ((ps == sg) && ((ps == ("^" : PySem.Str)) == true))) = false → pops ps v = false
    rcases hs with rfl | rfl | rfl <;> rcases hp with rfl | rfl | rfl <;> rcases hv with rfl | rfl | rfl | rfl <;> decide +kernel
theorem fits_right {sg : PySem.Str} {r : Tr} (hr : r.rd) (hs : Sgn sg) (n : need sg false r = false) : fits sg r := by
  cases r with
  | leaf _ _ => trivial
  | node ps a b =>
    have hp := hr.1
    show pops ps sg = false
    revert n
    show (lessS ps sg || ((ps == sg) && ((ps == ("^" : PySem.Str)) == false))) = false → pops ps sg = false
    rcases hs with rfl | rfl | rfl <;> rcases hp with rfl | rfl | rfl <;> decide +kernel
theorem pops_own {x sg : PySem.Str} (hs : Sgn sg) (hx : Sgn x) (n : (lessS sg x || ((sg == x) && ((sg == ("^" : PySem.Str)) == true))) = false) : pops x sg = true := by
  revert n
  rcases hs with rfl | rfl | rfl <;> rcases hx with rfl | rfl | rfl <;> decide +kernel
theorem need_right {x sg : PySem.Str} {r : Tr} (hr : r.rd) (hs : Sgn sg) (hx : Sgn x) (n1 : need sg false r = false) (n : (lessS sg x || ((sg == x) && ((sg == ("^" : PySem.Str)) == true))) = false) : need x true r = false := by
  cases r with
  | leaf _ _ => rfl
  | node ps a b =>
    have hp := hr.1
    revert n1 n
    show (lessS sg x || ((sg == x) && ((sg == ("^" : PySem.Str)) == true))) = false → (lessS ps sg || ((ps == sg) && ((ps == ("^" : PySem.Str)) == false))) = false → (lessS ps x || ((ps == x) && ((ps == ("^" : PySem.Str)) == true))) = false
    rcases hs with rfl | rfl | rfl <;> rcases hx with rfl | rfl | rfl <;> rcases hp with rfl | rfl | rfl <;> decide +kernel
/-- in brackets -/
theorem rd_br {T : Tr} {p : PySem.Str} {P : List PySem.Str} {Tl : List TE} (R : Rd T (p ++ "(") (P ++ [("(" : PySem.Str)]) Tl) (hz : P.length + Tl.length + (tell T (p ++ "(")).1.length < 900) :
    Run ([("(" : PySem.Str)] ++ (tell T (p ++ "(")).1 ++ [(")" : PySem.Str)]) P Tl P (Tl ++ (tell T (p ++ "(")).2) := by
  obtain ⟨ops, tl, R1, e, s1, _⟩ := R.ex
  have hl := tell_len2 T (p ++ "(")
  have el := congrArg List.length e
  rw [List.length_append, List.length_map] at el
  have a := (step_lp (P := P) (T := Tl) (by omega) (by omega)).app R1
  have b := step_rp (P := P) (T := Tl ++ tl) (r := ops) s1 (by rw [List.length_append]; omega)
  have c := a.app b
  rw [List.append_assoc Tl, ← e] at c
  simpa using c
/-- one side of a sign -/
noncomputable abbrev side (sg : PySem.Str) (first : Bool) (T : Tr) (p : PySem.Str) : List PySem.Str × List TE := if need sg first T then ([("(" : PySem.Str)] ++ (tell T (p ++ "(")).1 ++ [(")" : PySem.Str)], (tell T (p ++ "(")).2) else tell T p
noncomputable abbrev TreeR (T : Tr) : Prop := ∀ (P0 : List PySem.Str) (v : PySem.Str) (Tl : List TE), fits v T → (v = "(" ∨ Sgn v) → (∀ x ∈ P0 ++ [v], x.length ≤ 1) → P0.length + Tl.length + (tell T (txt (P0 ++ [v]))).1.length < 880 → Rd T (txt (P0 ++ [v])) (P0 ++ [v]) Tl
theorem fits_lp {T : Tr} (hr : T.rd) : fits "(" T := by
  cases T with
  | leaf _ _ => trivial
  | node sg _ _ => exact (sgn_facts hr.1).2.2.2.2.2.2.2
theorem lp_len : ("(" : PySem.Str).length ≤ 1 := by decide +kernel
theorem rd_side {T : Tr} {sg v : PySem.Str} {first : Bool} {P0 : List PySem.Str} {Tl : List TE} (IH : TreeR T) (hr : T.rd) (hf : need sg first T = false → fits v T) (hv : v = "(" ∨ Sgn v) (h1 : ∀ x ∈ P0 ++ [v], x.length ≤ 1)
    (hz : P0.length + Tl.length + (side sg first T (txt (P0 ++ [v]))).1.length < 880) :
    ∃ (ops : List PySem.Str) (tl : List TE), Run (side sg first T (txt (P0 ++ [v]))).1 (P0 ++ [v]) Tl (P0 ++ [v] ++ ops.reverse) (Tl ++ tl) ∧ (side sg first T (txt (P0 ++ [v]))).2 = tl ++ ops.map .sgn ∧ (∀ o ∈ ops, Sgn o) ∧ (ops ≠ [] → need sg first T = false) ∧ ∀ x, Sgn x → need x true T = false → ∀ o ∈ ops, pops x o = true := by
  cases c : need sg first T
  · have sd : side sg first T (txt (P0 ++ [v])) = tell T (txt (P0 ++ [v])) := if_neg (ne_true_of_eq_false c)
    rw [sd] at hz ⊢
    obtain ⟨ops, tl, R1, q1, q2, q3⟩ := (IH P0 v Tl (hf c) hv h1 hz).ex
    exact ⟨ops, tl, R1, q1, q2, fun _ => rfl, q3⟩
  · have sd : side sg first T (txt (P0 ++ [v])) = ([("(" : PySem.Str)] ++ (tell T (txt (P0 ++ [v]) ++ "(")).1 ++ [(")" : PySem.Str)], (tell T (txt (P0 ++ [v]) ++ "(")).2) := if_pos c
    rw [sd] at hz ⊢
    have e1 : ∀ x ∈ P0 ++ [v] ++ [("(" : PySem.Str)], x.length ≤ 1 := fun x hx => (List.mem_append.mp hx).elim (h1 x) fun h => by rw [List.mem_singleton.mp h]; exact lp_len
    simp only [List.length_append, List.length_cons, List.length_nil] at hz
    have t := txt_add (P0 ++ [v]) "("
    have R1 := IH (P0 ++ [v]) "(" Tl (fits_lp hr) (.inl rfl) e1 (by rw [t, List.length_append]; simp only [List.length_cons, List.length_nil]; omega)
    rw [t] at R1
    have R2 := rd_br R1 (by rw [List.length_append]; simp only [List.length_cons, List.length_nil]; omega)
    exact ⟨[], _, by simpa using R2, by simp, fun _ h => (nomatch h), fun h => absurd rfl h, fun _ _ _ _ h => (nomatch h)⟩
theorem rd_tree : ∀ (T : Tr), T.rd → TreeR T
  | .leaf x o, hr, P0, v, Tl, _, _, h1, hz => by
    refine ⟨⟨[], [TE.of (txt (P0 ++ [v])) o], ?_, rfl, fun _ h => (nomatch h), fun _ _ _ _ h => (nomatch h)⟩⟩
    have := step_leaf (P := P0 ++ [v]) (T := Tl) hr (by simp; omega) (by omega) h1
    simpa [tell] using this
  | .node sg l r, hr, P0, v, Tl, hf, hv, h1, hz => by
    obtain ⟨hs, hl, hrr⟩ := hr
    obtain ⟨f1, f0, f2, f3, f4, f5, f6, f7⟩ := sgn_facts hs
    have lw := w1 (txt (P0 ++ [v])) sg
    have rw' := w2 (txt (P0 ++ [v])) hs
    have ts := txt_add (P0 ++ [v]) sg
    have e2 : ∀ x ∈ P0 ++ [v] ++ [sg], x.length ≤ 1 := fun x hx => (List.mem_append.mp hx).elim (h1 x) fun h => by rw [List.mem_singleton.mp h]; exact f0
    have et : tell (.node sg l r) (txt (P0 ++ [v])) = ((side sg true l (txt (P0 ++ [v]))).1 ++ [sg] ++ (side sg false r (txt (P0 ++ [v] ++ [sg]))).1, (side sg true l (txt (P0 ++ [v]))).2 ++ (side sg false r (txt (P0 ++ [v] ++ [sg]))).2 ++ [.sgn sg]) := by
      rw [ts]
      simp only [tell, lw, rw', side]
    have et1 := congrArg Prod.fst et
    have et2 := congrArg Prod.snd et
    rw [et1] at hz
    simp only [List.length_append, List.length_cons, List.length_nil] at hz
    obtain ⟨o1, t1, R1, a1, a2, a3, a4⟩ := rd_side (sg := sg) (first := true) (Tl := Tl) (rd_tree l hl) hl (fun n => fits_left hl hs hv hf n) hv h1 (by omega)
    have l1 := congrArg List.length a1
    have l2 : (side sg true l (txt (P0 ++ [v]))).2.length ≤ (side sg true l (txt (P0 ++ [v]))).1.length := by
      rw [side]; split
      · have := tell_len2 l (txt (P0 ++ [v]) ++ "("); simp only [List.length_append, List.length_cons, List.length_nil]; omega
      · exact tell_len2 _ _
    rw [List.length_append, List.length_map] at l1
    have p1 : ∀ o ∈ o1, pops sg o = true := by
      cases o1 with
      | nil => exact fun _ h => (nomatch h)
      | cons o r => exact a4 sg hs (a3 (by simp))
    have R2 := R1.app (step_sgn (x := sg) (v := v) (P := P0) (T := Tl ++ t1) (r := o1) hs hf p1 (by rw [List.length_append]; omega))
    rw [List.append_assoc Tl, ← a1] at R2
    obtain ⟨o2, t2, R3, b1, b2, b3, b4⟩ := rd_side (sg := sg) (v := sg) (first := false) (P0 := P0 ++ [v]) (Tl := Tl ++ (side sg true l (txt (P0 ++ [v]))).2) (rd_tree r hrr) hrr (fun n => fits_right hrr hs n) (.inr hs) e2 (by simp only [List.length_append, List.length_cons, List.length_nil]; omega)
    have R4 := R2.app R3
    refine ⟨⟨o2 ++ [sg], (side sg true l (txt (P0 ++ [v]))).2 ++ t2, ?_, ?_, ?_, ?_⟩⟩
    · rw [et1]
      simpa using R4
    · rw [et2, b1]; simp
    · intro o ho
      rcases List.mem_append.mp ho with ho | ho
      · exact b2 o ho
      · rw [List.mem_singleton.mp ho]; exact hs
    · intro x hx n o ho
      rcases List.mem_append.mp ho with ho | ho
      · refine b4 x hx (need_right hrr hs hx (b3 ?_) n) o ho
        rintro rfl; cases ho
      · rw [List.mem_singleton.mp ho]; exact pops_own hs hx n
/-- the whole formula, in its one pair of brackets -/
theorem rd_whole {T : Tr} (hr : T.rd) (hz : (tell T "(").1.length < 800) : Run ([("(" : PySem.Str)] ++ (tell T "(").1 ++ [(")" : PySem.Str)]) [] [] [] (tell T "(").2 := by
  have t : txt ([] ++ [("(" : PySem.Str)]) = "(" := by decide +kernel
  have R := rd_tree T hr [] "(" [] (fits_lp hr) (.inl rfl) (fun x hx => by rw [List.mem_singleton.mp hx]; exact lp_len) (by rw [t]; simp only [List.length_nil]; omega)
  rw [t] at R
  have e : ("" : PySem.Str) ++ ("(" : PySem.Str) = "(" := by decide +kernel
  have := rd_br (T := T) (p := "") (P := []) (Tl := []) (by rw [e]; exact R) (by rw [e]; simp only [List.length_nil]; omega)
  rw [e] at this
  simpa using this
end
section
open PySem PySem.W PyProof.Rows PySem.Spec PySem.Calls Builtin Builtin.Str
/-- a word and what is read of it -/
structure Wd (x tok : PySem.Str) : Prop where
  sp : ∃ q, Sp q (cd x) tok ∧ (Txt.item x 0 != ("\"" : PySem.Str)) = !q
  len : 1 ≤ x.length ∧ x.length ≤ 1000
  low : ∀ c ∈ cd x, c < 128
  ink : ∃ c ∈ cd x, Unicode.isSpace c = false
inductive All2 (R : PySem.Str → PySem.Str → Prop) : List PySem.Str → List PySem.Str → Prop
  | nil : All2 R [] []
  | cons {x y : PySem.Str} {a b : List PySem.Str} : R x y → All2 R a b → All2 R (x :: a) (y :: b)
theorem All2.app {R : PySem.Str → PySem.Str → Prop} {a b c d : List PySem.Str} (h : All2 R a b) (k : All2 R c d) : All2 R (a ++ c) (b ++ d) := by
  induction h with
  | nil => exact k
  | cons r _ ih => exact .cons r ih
theorem All2.left {R : PySem.Str → PySem.Str → Prop} {a b : List PySem.Str} (h : All2 R a b) : ∀ x ∈ a, ∃ y, R x y := by
  induction h with
  | nil => exact fun _ h => nomatch h
  | cons r _ ih => intro x hx; rcases List.mem_cons.mp hx with rfl | hx; exact ⟨_, r⟩; exact ih x hx
noncomputable abbrev brk (wd used : Int) (x : PySem.Str) : Bool := decide (used > 0) && decide (used + 1 + (x.length : Int) > wd)
/-- the signs of the text that is still to come -/
noncomputable def codesF (wd : Int) : List PySem.Str → Int → List Nat
  | [], _ => []
  | x :: r, used => if brk wd used x then 10 :: 32 :: (cd x ++ codesF wd r (0 + (1 + (x.length : Int)))) else 32 :: (cd x ++ codesF wd r (used + (1 + (x.length : Int))))
theorem codesF_brk {wd used : Int} {x : PySem.Str} {r : List PySem.Str} (h : brk wd used x = true) : codesF wd (x :: r) used = 10 :: 32 :: (cd x ++ codesF wd r (0 + (1 + (x.length : Int)))) := if_pos h
theorem codesF_same {wd used : Int} {x : PySem.Str} {r : List PySem.Str} (h : brk wd used x = false) : codesF wd (x :: r) used = 32 :: (cd x ++ codesF wd r (used + (1 + (x.length : Int)))) := if_neg (ne_true_of_eq_false h)
theorem endsF_brk {wd used row : Int} {x prev : PySem.Str} {r : List PySem.Str} {E : List Int} (h : brk wd used x = true) : endsF wd (x :: r) prev row used E = endsF wd r x (row + 1) (0 + (1 + (x.length : Int))) ((if Txt.item prev 0 != ("\"" : PySem.Str) then E.dropLast ++ [row + 1] else E) ++ [row + 1]) := if_pos h
theorem endsF_same {wd used row : Int} {x prev : PySem.Str} {r : List PySem.Str} {E : List Int} (h : brk wd used x = false) : endsF wd (x :: r) prev row used E = endsF wd r x row (used + (1 + (x.length : Int))) (E ++ [row]) := if_neg (ne_true_of_eq_false h)
/-- what stands ahead of the lexer behind a word -/
inductive Rem (wd : Int) : Bool → List PySem.Str → Int → Int → List Nat → Int → Prop
  | quot {ws : List PySem.Str} {used row : Int} : Rem wd true ws used row (codesF wd ws used) row
  | fin {used row : Int} : Rem wd false [] used row [] row
  | brk {x : PySem.Str} {r : List PySem.Str} {used row : Int} : brk wd used x = true → Rem wd false (x :: r) used row (32 :: (cd x ++ codesF wd r (0 + (1 + (x.length : Int))))) (row + 1)
  | same {x : PySem.Str} {r : List PySem.Str} {used row : Int} : brk wd used x = false → Rem wd false (x :: r) used row (cd x ++ codesF wd r (used + (1 + (x.length : Int)))) row
theorem Rem.len {wd used row n : Int} {q : Bool} {ws : List PySem.Str} {rest : List Nat} (R : Rem wd q ws used row rest n) : rest.length ≤ (codesF wd ws used).length := by
  cases R with
  | quot => exact Nat.le_refl _
  | fin => exact Nat.le_refl _
  | brk h => rw [codesF_brk h]; simp
  | same h => rw [codesF_same h]; simp
/-- a word is read: what stands ahead then -/
theorem read_word {wd used row : Int} {x tok : PySem.Str} (W : Wd x tok) (ws : List PySem.Str) : ∃ q rest n, (Txt.item x 0 != ("\"" : PySem.Str)) = !q ∧ TokR (cd x ++ codesF wd ws used) row tok rest n ∧ Rem wd q ws used row rest n := by
  obtain ⟨q, S, hq⟩ := W.sp
  cases q with
  | true => exact ⟨true, _, _, hq, S.quot_tok _ _, .quot⟩
  | false =>
    cases ws with
    | nil => exact ⟨false, _, _, hq, by show TokR (cd x ++ []) _ _ _ _; rw [List.append_nil]; exact S.bare_end row, .fin⟩
    | cons y r =>
      cases h : brk wd used y
      · refine ⟨false, _, _, hq, ?_, .same h⟩
        rw [codesF_same h]
        have := S.bare_ws (c := 32) (by decide +kernel) (cd y ++ codesF wd r (used + (1 + (y.length : Int)))) row
        rw [lnN_ne (by decide)] at this
        exact this
      · refine ⟨false, _, _, hq, ?_, .brk h⟩
        rw [codesF_brk h]
        have := S.bare_ws (c := 10) (by decide +kernel) (32 :: (cd y ++ codesF wd r (0 + (1 + (y.length : Int))))) row
        rw [lnN_nl] at this
        exact this
noncomputable abbrev row' (wd used row : Int) (x : PySem.Str) : Int := if brk wd used x then row + 1 else row
noncomputable abbrev used' (wd used : Int) (x : PySem.Str) : Int := if brk wd used x then 0 + (1 + (x.length : Int)) else used + (1 + (x.length : Int))
theorem read_next {wd used row n : Int} {q : Bool} {x tok : PySem.Str} {ws : List PySem.Str} {rest : List Nat} (W : Wd x tok) (R : Rem wd q (x :: ws) used row rest n) : ∃ q' rest' n', (Txt.item x 0 != ("\"" : PySem.Str)) = !q' ∧ TokR rest n tok rest' n' ∧ Rem wd q' ws (used' wd used x) (row' wd used row x) rest' n' := by
  cases R with
  | quot =>
    cases h : brk wd used x
    · rw [codesF_same h, used', row', h, if_neg (by decide), if_neg (by decide)]
      obtain ⟨q', rest', n', a, b, c⟩ := read_word (wd := wd) (used := used + (1 + (x.length : Int))) (row := row) W ws
      exact ⟨q', rest', n', a, tok_blank b, c⟩
    · rw [codesF_brk h, used', row', h, if_pos rfl, if_pos rfl]
      obtain ⟨q', rest', n', a, b, c⟩ := read_word (wd := wd) (used := 0 + (1 + (x.length : Int))) (row := row + 1) W ws
      exact ⟨q', rest', n', a, tok_nl (tok_blank b), c⟩
  | brk h =>
    rw [used', row', h, if_pos rfl, if_pos rfl]
    obtain ⟨q', rest', n', a, b, c⟩ := read_word (wd := wd) (used := 0 + (1 + (x.length : Int))) (row := row + 1) W ws
    exact ⟨q', rest', n', a, tok_blank b, c⟩
  | same h =>
    rw [used', row', h, if_neg (by decide), if_neg (by decide)]
    exact read_word (wd := wd) (used := used + (1 + (x.length : Int))) (row := row) W ws
theorem ends_step {wd used row n : Int} {q : Bool} {x prev : PySem.Str} {ws : List PySem.Str} {rest : List Nat} {E0 : List Int} (hq : (Txt.item prev 0 != ("\"" : PySem.Str)) = !q) (R : Rem wd q (x :: ws) used row rest n) :
    endsF wd (x :: ws) prev row used (E0 ++ [row]) = endsF wd ws x (row' wd used row x) (used' wd used x) ((E0 ++ [n]) ++ [row' wd used row x]) := by
  cases h : brk wd used x
  · rw [endsF_same h, used', row', h, if_neg (by decide), if_neg (by decide)]
    cases R with
    | quot => rfl
    | brk h' => rw [h] at h'; cases h'
    | same h' => rfl
  · rw [endsF_brk h, used', row', h, if_pos rfl, if_pos rfl, hq]
    cases R with
    | quot => rfl
    | brk h' => rw [Bool.not_false, if_pos rfl, List.dropLast_concat]
    | same h' => rw [h] at h'; cases h'
theorem codesF_tail {wd used : Int} {x : PySem.Str} {ws : List PySem.Str} : (codesF wd ws (used' wd used x)).length ≤ (codesF wd (x :: ws) used).length := by
  cases h : brk wd used x
  · rw [codesF_same h, used', h, if_neg (by decide)]; simp; omega
  · rw [codesF_brk h, used', h, if_pos rfl]; simp; omega
theorem lr_of {wd : Int} {P' : List PySem.Str} {T' : List TE} : ∀ {ws toks : List PySem.Str}, All2 Wd ws toks → ∀ {P : List PySem.Str} {T : List TE} {q : Bool} {prev : PySem.Str} {used row n : Int} {rest : List Nat} {E0 : List Int},
    Run toks P T P' T' → Rem wd q ws used row rest n → (Txt.item prev 0 != ("\"" : PySem.Str)) = !q → (codesF wd ws used).length ≤ sizeLine → E0.length + ws.length < 990 →
    ∃ tok r1 n1 k, TokR rest n tok r1 n1 ∧ LR k tok r1 n1 P T (E0 ++ [n]) P' T' (endsF wd ws prev row used (E0 ++ [row])) := by
  intro ws toks A
  induction A with
  | nil =>
    intro P T q prev used row n rest E0 R M hq hz hE
    cases R
    cases M with
    | quot => exact ⟨"", [], row, 0, .fin, .fin⟩
    | fin => exact ⟨"", [], row, 0, .fin, .fin⟩
  | cons w A ih =>
    intro P T q prev used row n rest E0 R M hq hz hE
    cases R with
    | cons c1 c2 c3 c4 st R =>
      obtain ⟨q', rest', n', a1, a2, a3⟩ := read_next w M
      simp only [List.length_cons] at hE
      obtain ⟨tok, r1, n1, k, b1, b2⟩ := ih (E0 := E0 ++ [n]) R a3 a1 (Nat.le_trans codesF_tail hz) (by rw [List.length_append, List.length_singleton]; omega)
      rw [ends_step hq M]
      refine ⟨_, rest', n', k + 1, a2, .step c1 c2 c3 c4 st (Nat.le_trans a3.len (Nat.le_trans codesF_tail hz)) b1 ?_ b2⟩
      rw [List.length_append, List.length_singleton]; omega
/-- the whole text -/
theorem text_lr {wd : Int} {ws toks : List PySem.Str} {T' : List TE} (A : All2 Wd ws toks) (R : Run toks [] [] [] T') (hz : (codesF wd ws 0).length ≤ sizeLine) (hl : ws.length < 900) (hne : ws ≠ []) :
    ∃ tok r1 n1 k, TokR (codesF wd ws 0) 1 tok r1 n1 ∧ LR k tok r1 n1 [] [] [] [] T' (endsF wd ws "" 1 0 []) := by
  cases A with
  | nil => exact absurd rfl hne
  | cons w A =>
    rename_i x y a b
    cases R with
    | cons c1 c2 c3 c4 st R =>
      obtain ⟨q', rest', n', a1, a2, a3⟩ := read_next w (Rem.quot (wd := wd) (ws := x :: a) (used := 0) (row := 1))
      have h0 : brk wd 0 x = false := rfl
      simp only [List.length_cons] at hl
      obtain ⟨tok, r1, n1, k, b1, b2⟩ := lr_of A (E0 := []) R a3 a1 (Nat.le_trans codesF_tail hz) (by simp only [List.length_nil]; omega)
      have e : endsF wd (x :: a) "" 1 0 [] = endsF wd a x (row' wd 0 1 x) (used' wd 0 x) ([] ++ [row' wd 0 1 x]) := by
        rw [endsF_same h0, used', row', h0, if_neg (by decide), if_neg (by decide)]
      rw [e]
      exact ⟨_, rest', n', k + 1, a2, .step c1 c2 c3 c4 st (Nat.le_trans a3.len (Nat.le_trans codesF_tail hz)) b1 (by decide) b2⟩
end
section
open PySem PySem.W PyProof.Rows PySem.Spec PySem.Calls Builtin Builtin.Str
theorem joinN_cd (sep : PySem.Str) (b : PySem.Str) : ∀ l : List PySem.Str, l ≠ [] → cd (Txt.join sep (l ++ [b])) = cd (Txt.join sep l) ++ (cd sep ++ cd b) := by
  intro l hl
  show cd (glued sep (l ++ [b])) = cd (glued sep l) ++ _
  rw [StrLaws.glued_eq_join, StrLaws.glued_eq_join]
  induction l with
  | nil => exact absurd rfl hl
  | cons x r ih =>
    cases r with
    | nil => show cd (x ++ sep ++ b) = cd x ++ _; rw [cd_add, cd_add, List.append_assoc]
    | cons y r =>
      have h := ih (by simp)
      show cd (x ++ sep ++ Str.join sep ((y :: r) ++ [b])) = cd (x ++ sep ++ Str.join sep (y :: r)) ++ _
      rw [cd_add (x ++ sep), cd_add (x ++ sep), h, List.append_assoc]
theorem joinN_grow (sep a b : PySem.Str) : ∀ l : List PySem.Str, cd (Txt.join sep (l ++ [a ++ b])) = cd (Txt.join sep (l ++ [a])) ++ cd b := by
  intro l
  cases l with
  | nil => show cd (glued sep [a ++ b]) = cd (glued sep [a]) ++ _; rw [StrLaws.glued_eq_join, StrLaws.glued_eq_join]; show cd (a ++ b) = cd a ++ _; rw [cd_add]
  | cons x r => rw [joinN_cd sep _ (x :: r) (by simp), joinN_cd sep _ (x :: r) (by simp), cd_add]; simp
noncomputable abbrev FSt := List (PySem.Str × PySem.Str) × List PySem.Str
noncomputable abbrev lineC (st : FSt) : PySem.Str := Txt.join "\n" (st.2 ++ [catAll st.1])
theorem catAll_cd (l : List (PySem.Str × PySem.Str)) : cd (catAll l) = (l.map cat1).flatMap cd := join_cd _
theorem catAll_add (l : List (PySem.Str × PySem.Str)) (x : PySem.Str) : catAll (l ++ [((" " : PySem.Str), x)]) = catAll l ++ (" " ++ x) := cd_inj (by rw [cd_add, catAll_cd, catAll_cd]; simp)
theorem cd_bl (x : PySem.Str) : cd ((" " : PySem.Str) ++ x) = 32 :: cd x := by rw [cd_add]; rfl
theorem cd_nl : cd ("\n" : PySem.Str) = [10] := by decide +kernel
theorem bl_len : (" " : PySem.Str).length = 1 := by decide +kernel
/-- what the formatter's rows keep to, behind n words -/
structure FInv (W0 : List PySem.Str) (n : Nat) (st : FSt) : Prop where
  ws : ∀ p ∈ st.1, p.1 = " " ∧ p.2 ∈ W0
  l1 : st.1.length ≤ n
  l2 : st.2.length ≤ n
  e1 : st.1 = [] → st.2 = []
  e2 : 0 < n → st.1 ≠ []
theorem FInv.nil (W0 : List PySem.Str) : FInv W0 0 ([], []) := ⟨fun _ h => (nomatch h), Nat.le_refl _, Nat.le_refl _, fun _ => rfl, fun h => absurd h (by decide)⟩
theorem FInv.step {W0 : List PySem.Str} {n : Nat} {st : FSt} {wd : Int} {x : PySem.Str} (F : FInv W0 n st) (hx : x ∈ W0) : FInv W0 (n + 1) (chunkS wd st x) := by
  unfold chunkS
  split
  · refine ⟨fun p hp => ?_, by simp, ?_, fun h => (nomatch h), fun _ h => (nomatch h)⟩
    · rw [List.mem_singleton.mp hp]; exact ⟨rfl, hx⟩
    · rw [List.length_append, List.length_singleton]; have := F.l2; omega
  · refine ⟨fun p hp => ?_, ?_, ?_, fun h => ?_, fun _ h => ?_⟩
    · rcases List.mem_append.mp hp with hp | hp
      · exact F.ws p hp
      · rw [List.mem_singleton.mp hp]; exact ⟨rfl, hx⟩
    · rw [List.length_append, List.length_singleton]; have := F.l1; omega
    · have := F.l2; show st.2.length ≤ _; omega
    · simp at h
    · simp at h
theorem small_ws {W0 : List PySem.Str} {ws : List (PySem.Str × PySem.Str)} (h : ∀ p ∈ ws, p.1 = " " ∧ p.2 ∈ W0) (hw : ∀ x ∈ W0, 1 ≤ x.length ∧ x.length ≤ 1000) (hl : ws.length ≤ 990) : Small ws := by
  refine ⟨by omega, fun p hp => ?_, ?_⟩
  · have := hw _ (h p hp).2
    rw [(h p hp).1, bl_len]; exact ⟨by decide, by omega⟩
  · have : ∀ l : List (PySem.Str × PySem.Str), (∀ p ∈ l, p.1 = " " ∧ p.2 ∈ W0) → ((l.map cat1).map (·.length)).sum ≤ 1001 * l.length := by
      intro l
      induction l with
      | nil => intro _; exact Nat.le_refl _
      | cons p r ih =>
        intro hr
        have a := ih fun y hy => hr y (.tail _ hy)
        have b := hr p (.head _)
        have c := hw _ b.2
        show (p.1 ++ p.2).length + ((r.map cat1).map (·.length)).sum ≤ 1001 * (r.length + 1)
        rw [Str_len, b.1, bl_len]
        omega
    exact Nat.le_trans (this ws h) (by omega)
theorem sum_pos {W0 : List PySem.Str} {ws : List (PySem.Str × PySem.Str)} (h : ∀ p ∈ ws, p.1 = " " ∧ p.2 ∈ W0) (hn : ws ≠ []) : 0 < (ws.map wlen).sum := by
  cases ws with
  | nil => exact absurd rfl hn
  | cons p r =>
    have b := h p (.head _)
    have : ∀ l : List (PySem.Str × PySem.Str), 0 ≤ (l.map wlen).sum := by
      intro l
      induction l with
      | nil => exact Int.le_refl _
      | cons p r ih => simp only [List.map_cons, List.sum_cons, wlen]; omega
    have := this r
    simp only [List.map_cons, List.sum_cons, wlen]
    rw [b.1, bl_len]; omega
theorem fold_cd {W0 : List PySem.Str} {wd : Int} : ∀ (W : List PySem.Str) (n : Nat) (st : FSt), FInv W0 n st → (∀ x ∈ W, x ∈ W0) → cd (lineC (W.foldl (chunkS wd) st)) = cd (lineC st) ++ codesF wd W (st.1.map wlen).sum
  | [], n, st, _, _ => by show cd (lineC st) = cd (lineC st) ++ []; rw [List.append_nil]
  | x :: r, n, st, F, h => by
    have ih := fold_cd (wd := wd) r (n + 1) (chunkS wd st x) (F.step (h x (.head _))) fun y hy => h y (.tail _ hy)
    show cd (lineC (r.foldl (chunkS wd) (chunkS wd st x))) = _
    rw [ih]
    have es : ((st.1 ++ [((" " : PySem.Str), x)]).map wlen).sum = (st.1.map wlen).sum + (1 + (x.length : Int)) := by
      rw [List.map_append, List.sum_append]
      simp only [List.map_cons, List.map_nil, List.sum_cons, List.sum_nil, wlen, bl_len]
      omega
    by_cases c : wd < ((st.1 ++ [((" " : PySem.Str), x)]).map wlen).sum ∧ st.1 ≠ []
    · have hb : brk wd (st.1.map wlen).sum x = true := by
        have p := sum_pos F.ws c.2
        have q := c.1
        rw [es] at q
        simp only [brk, Bool.and_eq_true, decide_eq_true_eq]
        omega
      have e : chunkS wd st x = ([((" " : PySem.Str), x)], st.2 ++ [catAll st.1]) := if_pos c
      rw [codesF_brk hb, e]
      show cd (Txt.join "\n" (st.2 ++ [catAll st.1] ++ [catAll [((" " : PySem.Str), x)]])) ++ _ = _
      rw [joinN_cd _ _ _ (by simp), cd_nl]
      have e1 : cd (catAll [((" " : PySem.Str), x)]) = 32 :: cd x := by rw [catAll_cd]; simp; exact cd_bl x
      have e2 : ([((" " : PySem.Str), x)].map wlen).sum = 0 + (1 + (x.length : Int)) := by simp only [List.map_cons, List.map_nil, List.sum_cons, List.sum_nil, wlen, bl_len]; omega
      rw [e1, e2]
      simp
    · have hb : brk wd (st.1.map wlen).sum x = false := by
        rw [es] at c
        cases q : brk wd (st.1.map wlen).sum x
        · rfl
        · simp only [brk, Bool.and_eq_true, decide_eq_true_eq] at q
          refine absurd ⟨by omega, fun z => ?_⟩ c
          rw [z] at q; simp at q
      have e : chunkS wd st x = (st.1 ++ [((" " : PySem.Str), x)], st.2) := if_neg c
      rw [codesF_same hb, e]
      show cd (Txt.join "\n" (st.2 ++ [catAll (st.1 ++ [((" " : PySem.Str), x)])])) ++ codesF wd r ((st.1 ++ [((" " : PySem.Str), x)]).map wlen).sum = _
      rw [catAll_add, joinN_grow, cd_bl, es]
      simp
theorem codesF_len {wd : Int} : ∀ (W : List PySem.Str) (used : Int), (∀ x ∈ W, 1 ≤ x.length ∧ x.length ≤ 1000) → (codesF wd W used).length ≤ 1002 * W.length
  | [], _, _ => Nat.le_refl _
  | x :: r, used, h => by
    have a := codesF_len (wd := wd) r (used' wd used x) fun y hy => h y (.tail _ hy)
    have b := h x (.head _)
    have c := cd_len x
    cases q : brk wd used x
    · rw [used', q, if_neg (by decide)] at a
      rw [codesF_same q]; simp only [List.length_cons, List.length_append]; omega
    · rw [used', q, if_pos rfl] at a
      rw [codesF_brk q]; simp only [List.length_cons, List.length_append]; omega
theorem FInv.fold {W0 : List PySem.Str} {wd : Int} : ∀ (W : List PySem.Str) (n : Nat) (st : FSt), FInv W0 n st → (∀ x ∈ W, x ∈ W0) → FInv W0 (n + W.length) (W.foldl (chunkS wd) st)
  | [], n, st, F, _ => F
  | x :: r, n, st, F, h => by
    have := FInv.fold (wd := wd) r (n + 1) (chunkS wd st x) (F.step (h x (.head _))) fun y hy => h y (.tail _ hy)
    rw [List.length_cons, show n + (r.length + 1) = n + 1 + r.length by omega]
    exact this
/-- the text that the formatter gives -/
theorem fold_text {W : List PySem.Str} {wd : Int} : cd (lineC (W.foldl (chunkS wd) ([], []))) = codesF wd W 0 := by
  have := fold_cd (wd := wd) W 0 ([], []) (FInv.nil W) fun _ h => h
  rw [this]
  have e : cd (lineC (([], []) : FSt)) = [] := by decide +kernel
  rw [e]; rfl
theorem join_ok {W : List PySem.Str} {wd : Int} (hw : ∀ x ∈ W, 1 ≤ x.length ∧ x.length ≤ 1000) (hl : W.length < 900) : JoinOk "\n" ((W.foldl (chunkS wd) ([], [])).2 ++ [catAll (W.foldl (chunkS wd) ([], [])).1]) = true := by
  refine joinOk_of ?_
  have a := len_join_ge_sum "\n" ((W.foldl (chunkS wd) ([], [])).2 ++ [catAll (W.foldl (chunkS wd) ([], [])).1])
  have b : (lineC (W.foldl (chunkS wd) ([], []))).length = (codesF wd W 0).length := by rw [← fold_text]; rfl
  have c := codesF_len (wd := wd) W 0 hw
  have d := (FInv.fold (wd := wd) W 0 ([], []) (FInv.nil W) fun _ h => h).l2
  have e : ("\n" : PySem.Str).length = 1 := by decide +kernel
  rw [e, List.length_append, List.length_singleton]
  unfold lineC at b
  omega
end
section
open PySem PySem.W PyProof.Rows PySem.Spec PySem.Calls Builtin Builtin.Str
/-! replace, slice, find and split, by a text's signs -/
noncomputable def subC (c : Nat) (z : List Nat) : List Nat → List Nat
  | [] => []
  | k :: r => if k = c then z ++ subC c z r else k :: subC c z r
theorem subC_hit (c : Nat) (z r : List Nat) : subC c z (c :: r) = z ++ subC c z r := if_pos rfl
theorem subC_miss {c k : Nat} (z r : List Nat) (h : k ≠ c) : subC c z (k :: r) = k :: subC c z r := if_neg h
theorem subC_app (c : Nat) (z : List Nat) : ∀ a b, subC c z (a ++ b) = subC c z a ++ subC c z b
  | [], _ => rfl
  | k :: r, b => by
    have ih := subC_app c z r b
    by_cases h : k = c
    · subst h; rw [List.cons_append, subC_hit, subC_hit, ih, List.append_assoc]
    · rw [List.cons_append, subC_miss _ _ h, subC_miss _ _ h, ih]; rfl
theorem subC_free (c : Nat) (z : List Nat) : ∀ l, c ∉ l → subC c z l = l
  | [], _ => rfl
  | k :: r, h => by
    rw [subC_miss _ _ (fun e : k = c => h (by rw [e]; exact .head _)), subC_free c z r fun m => h (.tail _ m)]
theorem subC_join (c : Nat) (z : PySem.Str) : ∀ parts : List PySem.Str, (∀ p ∈ parts, c ∉ cd p) → subC c (cd z) (cd (Str.join ⟨#[c]⟩ parts)) = cd (Str.join z parts)
  | [], _ => rfl
  | [p], h => subC_free c _ _ (h p (List.mem_singleton.mpr rfl))
  | p :: q :: r, h => by
    have ih := subC_join c z (q :: r) fun a ha => h a (List.mem_cons_of_mem _ ha)
    show subC c (cd z) (cd (p ++ ⟨#[c]⟩ ++ Str.join ⟨#[c]⟩ (q :: r))) = cd (p ++ z ++ Str.join z (q :: r))
    simp only [cd_add]
    rw [subC_app, subC_app, ih, subC_free c _ _ (h p (List.mem_cons_self ..))]
    show cd p ++ subC c (cd z) [c] ++ _ = _
    rw [subC_hit]; simp [subC]
theorem cd_replace (x z : PySem.Str) (c : Nat) : cd (Txt.replace x ⟨#[c]⟩ z) = subC c (cd z) (cd x) := by
  rw [StrLaws.replace_one, ← subC_join c z _ (StrLaws.split_free x c), StrLaws.join_split]
theorem hide1_cd (r : PySem.Str) : cd (hide1 r) = subC 92 [92, 92] (cd r) := by
  have e1 : ("\\" : PySem.Str) = ⟨#[92]⟩ := by decide +kernel
  have e2 : cd ("\\\\" : PySem.Str) = [92, 92] := by decide +kernel
  show cd (Txt.replace r "\\" "\\\\") = _
  rw [e1, cd_replace, e2]
theorem escQ_of : ∀ l, subC 34 [92, 34] (subC 92 [92, 92] l) = escQ l
  | [] => rfl
  | c :: r => by
    have ih := escQ_of r
    unfold escQ
    by_cases h : c = 92
    · subst h
      rw [subC_hit, if_pos (.inl rfl)]
      show subC 34 _ (92 :: 92 :: subC 92 [92, 92] r) = _
      rw [subC_miss _ _ (by decide), subC_miss _ _ (by decide), ih]
    · rw [subC_miss _ _ h]
      by_cases h2 : c = 34
      · subst h2
        rw [subC_hit, if_pos (.inr rfl), ih]; rfl
      · rw [subC_miss _ _ h2, if_neg (fun q => q.elim h h2), ih]
theorem hide_cd (r : PySem.Str) : cd (hide r) = escQ (cd r) := by
  have e1 : ("\"" : PySem.Str) = ⟨#[34]⟩ := by decide +kernel
  have e2 : cd ("\\\"" : PySem.Str) = [92, 34] := by decide +kernel
  show cd (Txt.replace (hide1 r) "\"" "\\\"") = _
  rw [e1, cd_replace, e2, hide1_cd, escQ_of]
theorem escB_of : ∀ l, subC 32 [92, 32] (escQ l) = escB l
  | [] => rfl
  | c :: r => by
    have ih := escB_of r
    unfold escQ escB
    by_cases h : c = 92 ∨ c = 34
    · rw [if_pos h, if_pos (h.elim .inl fun q => .inr (.inl q)), subC_miss _ _ (by decide), subC_miss _ _ (by rcases h with rfl | rfl <;> decide), ih]
    · rw [if_neg h]
      by_cases h2 : c = 32
      · subst h2
        rw [subC_hit, if_pos (.inr (.inr rfl)), ih]; rfl
      · rw [subC_miss _ _ h2, if_neg (by rintro (q | q | q); exact h (.inl q); exact h (.inr q); exact h2 q), ih]
theorem hide3_cd (r : PySem.Str) : cd (hide3 r) = escB (cd r) := by
  have e1 : (" " : PySem.Str) = ⟨#[32]⟩ := by decide +kernel
  have e2 : cd ("\\ " : PySem.Str) = [92, 32] := by decide +kernel
  show cd (Txt.replace (hide r) " " "\\ ") = _
  rw [e1, cd_replace, e2, hide_cd, escB_of]
theorem sub2_len (c d : Nat) : ∀ l, (subC c [d, c] l).length ≤ 2 * l.length
  | [] => Nat.le_refl _
  | k :: r => by
    have ih := sub2_len c d r
    by_cases h : k = c
    · subst h; rw [subC_hit]; simp; omega
    · rw [subC_miss _ _ h]; simp; omega
theorem escQ_len : ∀ l, (escQ l).length ≤ 2 * l.length
  | [] => Nat.le_refl _
  | k :: r => by
    have ih := escQ_len r
    unfold escQ
    split <;> simp <;> omega
theorem escB_len : ∀ l, (escB l).length ≤ 2 * l.length
  | [] => Nat.le_refl _
  | k :: r => by
    have ih := escB_len r
    unfold escB
    split <;> simp <;> omega
theorem slice_to {x : PySem.Str} {j : Nat} (h : j ≤ (cd x).length) : Txt.slice x none (some (j : Int)) = ofC ((cd x).take j) := by
  have := StrLaws.sliceText_to (x := x) (j := j) ⟨Int.ofNat_nonneg _, by exact_mod_cast h⟩
  rw [List.drop_zero] at this
  exact this.trans (by simp)
theorem slice_mid {x : PySem.Str} {a b : Nat} (h1 : a ≤ b) (h : b ≤ (cd x).length) : Txt.slice x (some (a : Int)) (some (b : Int)) = ofC (((cd x).drop a).take (b - a)) := StrLaws.sliceText_nat x h1 h
theorem at_one {x : PySem.Str} {c i : Nat} : StrLaws.At x ⟨#[c]⟩ x.length i ↔ (cd x)[i]? = some c := StrLaws.subAt_one x c i
theorem find_at {x : PySem.Str} {c i : Nat} (h : (cd x)[i]? = some c) (hn : ∀ j, j < i → (cd x)[j]? ≠ some c) : Txt.find x ⟨#[c]⟩ = (i : Int) := by
  rcases find_whole x ⟨#[c]⟩ with ⟨_, n⟩ | ⟨k, e, hk, n⟩
  · exact absurd (at_one.mpr h) (n i)
  · rcases Nat.lt_trichotomy k i with q | q | q
    · exact absurd (at_one.mp hk) (hn k q)
    · rw [e, q]
    · exact absurd (at_one.mpr h) (n i q)
theorem find3_at {x : PySem.Str} {c i lo : Nat} (hl : lo ≤ i) (h : (cd x)[i]? = some c) (hn : ∀ j, lo ≤ j → j < i → (cd x)[j]? ≠ some c) : Txt.find3 x ⟨#[c]⟩ (lo : Int) = (i : Int) := by
  have ef : fromIndex x.length (lo : Int) = lo := by unfold fromIndex; rw [if_neg (by omega)]; omega
  unfold Txt.find3
  rw [ef]
  rcases StrLaws.occ_head_from x ⟨#[c]⟩ lo 1 (Nat.le_refl 1) with ⟨_, n⟩ | ⟨k, r, e, h0, hk, n⟩
  · exact absurd (at_one.mpr h) (n i hl)
  · rw [e]
    rcases Nat.lt_trichotomy k i with q | q | q
    · exact absurd (at_one.mp hk) (hn k h0 q)
    · subst q; rfl
    · exact absurd (at_one.mpr h) (n i hl q)
theorem item_at {x : PySem.Str} {c i : Nat} (h : (cd x)[i]? = some c) : Txt.item x (i : Int) = sg1 c := by
  have hl : i < x.length := (List.getElem?_eq_some_iff.mp h).1
  have e : seqIndex? (i : Int) x.length = some i := by
    unfold seqIndex?
    have h0 : ¬ ((i : Int) < 0) := by omega
    simp only [h0, if_false]
    simp
    exact hl
  unfold Txt.item Txt.charAt
  rw [e]
  have h2 : x.cps[i]? = some c := by simpa using h
  show (⟨#[(x.cps[i]?).getD 0]⟩ : PySem.Str) = _
  rw [h2]; rfl
theorem free_cut {c : Nat} : ∀ {a b r s : List Nat}, c ∉ a → c ∉ b → a ++ c :: r = b ++ c :: s → a = b ∧ r = s
  | [], [], _, _, _, _, e => ⟨rfl, (List.cons.inj e).2⟩
  | [], k :: b, _, _, _, h, e => absurd ((List.cons.inj e).1 ▸ .head _) h
  | k :: a, [], _, _, h, _, e => absurd ((List.cons.inj e).1 ▸ .head _) h
  | k :: a, l :: b, r, s, h, g, e => by
    obtain ⟨e1, e2⟩ := List.cons.inj e
    obtain ⟨x, y⟩ := free_cut (fun m => h (.tail _ m)) (fun m => g (.tail _ m)) e2
    exact ⟨by rw [e1, x], y⟩
theorem join_cons2 (c : Nat) (p q : PySem.Str) (r : List PySem.Str) : cd (Str.join ⟨#[c]⟩ (p :: q :: r)) = cd p ++ c :: cd (Str.join ⟨#[c]⟩ (q :: r)) := by
  show cd (p ++ ⟨#[c]⟩ ++ _) = _
  rw [cd_add, cd_add]
  show cd p ++ [c] ++ _ = _
  simp
theorem join_uniq {c : Nat} : ∀ {ps qs : List PySem.Str}, ps ≠ [] → qs ≠ [] → (∀ p ∈ ps, c ∉ cd p) → (∀ p ∈ qs, c ∉ cd p) → cd (Str.join ⟨#[c]⟩ ps) = cd (Str.join ⟨#[c]⟩ qs) → ps = qs
  | [], _, h, _, _, _, _ => absurd rfl h
  | _, [], _, h, _, _, _ => absurd rfl h
  | [p], [q], _, _, _, _, e => by rw [cd_inj (show cd p = cd q from e)]
  | [p], q :: q2 :: r, _, _, h, _, e => by
    rw [join_cons2] at e
    exact absurd (by rw [show cd p = _ from e]; simp) (h p (.head _))
  | p :: p2 :: r, [q], _, _, _, h, e => by
    rw [join_cons2] at e
    exact absurd (by rw [show cd q = _ from e.symm]; simp) (h q (.head _))
  | p :: p2 :: r, q :: q2 :: s, _, _, h, g, e => by
    rw [join_cons2, join_cons2] at e
    obtain ⟨e1, e2⟩ := free_cut (h p (.head _)) (g q (.head _)) e
    rw [cd_inj e1, join_uniq (by simp) (by simp) (fun a ha => h a (.tail _ ha)) (fun a ha => g a (.tail _ ha)) e2]
theorem split_is {x : PySem.Str} {c : Nat} {ps : List PySem.Str} (hp : ps ≠ []) (hf : ∀ p ∈ ps, c ∉ cd p) (hj : cd (Str.join ⟨#[c]⟩ ps) = cd x) (hx : cd x ≠ []) : Txt.split x ⟨#[c]⟩ = ps := by
  refine join_uniq (c := c) (fun e => hx ?_) hp (StrLaws.split_free x c) hf (by rw [StrLaws.join_split, hj])
  have := StrLaws.join_split x ⟨#[c]⟩
  rw [e] at this
  rw [← this]; rfl
end
section
open PySem PySem.W PyProof.Rows PySem.Spec PySem.Calls Builtin Builtin.Str
/-- a reply -/
structure RepOk (r : PySem.Str) : Prop where
  hd : ∃ l, cd r = 50 :: l
  cl : Cl (cd r)
  len : r.length ≤ 40
theorem of_cd (r : PySem.Str) : r = ofC (cd r) := cd_inj rfl
theorem mem_escQ {c : Nat} : ∀ {l : List Nat}, c ∈ escQ l → c = 92 ∨ c ∈ l
  | [], h => nomatch h
  | k :: r, h => by
    unfold escQ at h
    split at h
    · rcases List.mem_cons.mp h with h | h
      · exact .inl h
      · rcases List.mem_cons.mp h with h | h
        · exact .inr (h ▸ .head _)
        · exact (mem_escQ h).imp id (.tail _)
    · rcases List.mem_cons.mp h with h | h
      · exact .inr (h ▸ .head _)
      · exact (mem_escQ h).imp id (.tail _)
theorem mem_escB {c : Nat} : ∀ {l : List Nat}, c ∈ escB l → c = 92 ∨ c ∈ l
  | [], h => nomatch h
  | k :: r, h => by
    unfold escB at h
    split at h
    · rcases List.mem_cons.mp h with h | h
      · exact .inl h
      · rcases List.mem_cons.mp h with h | h
        · exact .inr (h ▸ .head _)
        · exact (mem_escB h).imp id (.tail _)
    · rcases List.mem_cons.mp h with h | h
      · exact .inr (h ▸ .head _)
      · exact (mem_escB h).imp id (.tail _)
theorem escB_pos {c : Nat} {l : List Nat} (h1 : c ≠ 92) (h2 : c ≠ 34) (h3 : c ≠ 32) : escB (c :: l) = c :: escB l :=
  (if_neg (by rintro (q | q | q); exact h1 q; exact h2 q; exact h3 q) : (if c = 92 ∨ c = 34 ∨ c = 32 then 92 :: c :: escB l else c :: escB l) = c :: escB l)
theorem q_cd : cd ("\"" : PySem.Str) = [34] := by decide +kernel
theorem wd_word {r : PySem.Str} (x : Int) (R : RepOk r) : Wd (wordOf x r) r := by
  obtain ⟨l, hl⟩ := R.hd
  have hcl := R.cl
  have hlen := R.len
  have hn : (cd r).length ≤ 40 := hlen
  by_cases q : ((x.fdiv 2).fmod 2 == 1) = true
  · have e : wordOf x r = ("\"" : PySem.Str) ++ hide r ++ ("\"" : PySem.Str) := if_pos q
    have ec : cd (wordOf x r) = 34 :: (escQ (cd r) ++ [34]) := by rw [e, cd_add, cd_add, q_cd, hide_cd]; simp
    have sl := escQ_len (cd r)
    refine ⟨⟨true, ?_, ?_⟩, ?_, fun c hc => ?_, ?_⟩
    · rw [ec]; have := Sp.quot hcl; rw [← of_cd] at this; exact this
    · rw [show Txt.item (wordOf x r) 0 = sg1 34 from item_at (i := 0) (by rw [ec]; rfl)]; decide +kernel
    · rw [← cd_len, ec]; simp; omega
    · rw [ec] at hc
      rcases List.mem_cons.mp hc with rfl | hc
      · decide
      · rcases List.mem_append.mp hc with hc | hc
        · rcases mem_escQ hc with rfl | hc
          · decide
          · exact (hcl c hc).2.2.2
        · rw [List.mem_singleton.mp hc]; decide
    · rw [ec]; exact ⟨34, .head _, by decide +kernel⟩
  · have e : wordOf x r = hide3 r := if_neg q
    have ec : cd (wordOf x r) = escB (cd r) := by rw [e, hide3_cd]
    have ec2 : cd (wordOf x r) = 50 :: escB l := by rw [ec, hl, escB_pos (by decide) (by decide) (by decide)]
    have sl := escB_len (cd r)
    refine ⟨⟨false, ?_, ?_⟩, ?_, fun c hc => ?_, ?_⟩
    · rw [ec, hl]; have := Sp.bare (hl ▸ hcl) (by decide) (by decide) (by decide); rw [← hl, ← of_cd] at this; rw [← hl]; exact this
    · rw [show Txt.item (wordOf x r) 0 = sg1 50 from item_at (i := 0) (by rw [ec2]; rfl)]; decide +kernel
    · refine ⟨?_, ?_⟩
      · rw [← cd_len, ec2]; simp
      · rw [← cd_len, ec]; omega
    · rw [ec] at hc
      rcases mem_escB hc with rfl | hc
      · decide
      · exact (hcl c hc).2.2.2
    · rw [ec2]; exact ⟨50, .head _, by decide +kernel⟩
theorem wd_one {x : PySem.Str} {c : Nat} (h : cd x = [c]) (h1 : c ≠ 10 ∧ c ≠ 9 ∧ c ≠ 13 ∧ c < 128) (h2 : c ≠ 34) (h3 : c ≠ 92) (h4 : c ≠ 32) (h5 : Unicode.isSpace c = false) : Wd x x := by
  have S : Sp false (escB [c]) (ofC [c]) := .bare (fun d hd => by rw [List.mem_singleton.mp hd]; exact h1) h2 h3 h4
  rw [escB_pos h3 h2 h4, show escB [] = [] from rfl, ← h, ← of_cd] at S
  refine ⟨⟨false, S, ?_⟩, ?_, fun d hd => ?_, ⟨c, by rw [h]; exact .head _, h5⟩⟩
  · rw [show Txt.item x 0 = sg1 c from item_at (i := 0) (by rw [h]; rfl)]
    show (sg1 c != (⟨#[34]⟩ : PySem.Str)) = true
    unfold bne; rw [sg1_ne h2]; rfl
  · rw [← cd_len, h]; show 1 ≤ 1 ∧ 1 ≤ 1000; decide
  · rw [h] at hd; rw [List.mem_singleton.mp hd]; exact h1.2.2.2
theorem wd_lp : Wd "(" "(" := wd_one (c := 40) (by decide +kernel) (by decide) (by decide) (by decide) (by decide) (by decide +kernel)
theorem wd_rp : Wd ")" ")" := wd_one (c := 41) (by decide +kernel) (by decide) (by decide) (by decide) (by decide) (by decide +kernel)
theorem wd_sgn {x : PySem.Str} (h : Sgn x) : Wd x x := by
  rcases h with rfl | rfl | rfl
  · exact wd_one (c := 45) (by decide +kernel) (by decide) (by decide) (by decide) (by decide) (by decide +kernel)
  · exact wd_one (c := 47) (by decide +kernel) (by decide) (by decide) (by decide) (by decide) (by decide +kernel)
  · exact wd_one (c := 94) (by decide +kernel) (by decide) (by decide) (by decide) (by decide) (by decide +kernel)
/-! a reply 229 -/
noncomputable abbrev dg (v : Int) : PySem.Str := PySem.Str.ofString (toString v)
noncomputable def chkD (v : Int) : Bool := (cd (dg v)).all (fun c => Nat.ble 48 c && Nat.ble c 57) && Nat.ble 1 (cd (dg v)).length && Nat.ble (cd (dg v)).length 3 && decide (PySem.intText? (dg v) = some v)
noncomputable def upTo (f : Int → Bool) : Nat → Bool
  | 0 => true
  | n + 1 => f n && upTo f n
theorem upTo_at {f : Int → Bool} : ∀ {n : Nat}, upTo f n = true → ∀ k : Int, 0 ≤ k → k < n → f k = true
  | 0, _, k, h0, h1 => absurd h1 (by omega)
  | n + 1, h, k, h0, h1 => by
    obtain ⟨a, b⟩ := Bool.and_eq_true_iff.mp h
    by_cases q : k = n
    · rw [q]; exact a
    · exact upTo_at b k h0 (by omega)
theorem digits : upTo chkD 100 = true := by decide +kernel
theorem digit_at {v : Int} (h0 : 0 ≤ v) (h1 : v < 100) : (∀ c ∈ cd (dg v), 48 ≤ c ∧ c ≤ 57) ∧ 1 ≤ (cd (dg v)).length ∧ (cd (dg v)).length ≤ 3 ∧ PySem.intText? (dg v) = some v := by
  have := upTo_at digits v h0 h1
  simp only [chkD, Bool.and_eq_true, List.all_eq_true, decide_eq_true_eq, Nat.ble_eq] at this
  exact ⟨this.1.1.1, this.1.1.2, this.1.2, this.2⟩
noncomputable def Mk (k : Nat) : Prop := k = 124 ∨ k = 33 ∨ k = 34 ∨ k = 92
theorem nat5 : ∀ n : Nat, n < 5 → n = 0 ∨ n = 1 ∨ n = 2 ∨ n = 3 ∨ n = 4 := by decide
theorem int5 {i : Int} (h0 : 0 ≤ i) (h1 : i < 5) : i = 0 ∨ i = 1 ∨ i = 2 ∨ i = 3 ∨ i = 4 := by
  obtain ⟨n, rfl⟩ := Int.eq_ofNat_of_zero_le h0
  rcases nat5 n (Int.ofNat_lt.mp h1) with rfl | rfl | rfl | rfl | rfl
  · exact .inl rfl
  · exact .inr (.inl rfl)
  · exact .inr (.inr (.inl rfl))
  · exact .inr (.inr (.inr (.inl rfl)))
  · exact .inr (.inr (.inr (.inr rfl)))
theorem int4 {i : Int} (h0 : 0 ≤ i) (h1 : i < 4) : i = 0 ∨ i = 1 ∨ i = 2 ∨ i = 3 := by
  rcases int5 h0 (Int.lt_trans h1 (by decide)) with h | h | h | h | h
  · exact .inl h
  · exact .inr (.inl h)
  · exact .inr (.inr (.inl h))
  · exact .inr (.inr (.inr h))
  · rw [h] at h1; exact absurd h1 (by decide)
theorem int3 {i : Int} (h0 : 0 ≤ i) (h1 : i < 3) : i = 0 ∨ i = 1 ∨ i = 2 := by
  rcases int4 h0 (Int.lt_trans h1 (by decide)) with h | h | h | h
  · exact .inl h
  · exact .inr (.inl h)
  · exact .inr (.inr h)
  · rw [h] at h1; exact absurd h1 (by decide)
theorem mark_at {m : Int} (h0 : 0 ≤ m) (h1 : m < 4) : ∃ k, Mk k ∧ Txt.item "|!\"\\" m = sg1 k ∧ Txt.mul (Txt.item "|!\"\\" m) 3 = ofC [k, k, k] := by
  have := int4 h0 h1
  rcases this with rfl | rfl | rfl | rfl
  · exact ⟨124, .inl rfl, by decide +kernel, by decide +kernel⟩
  · exact ⟨33, .inr (.inl rfl), by decide +kernel, by decide +kernel⟩
  · exact ⟨34, .inr (.inr (.inl rfl)), by decide +kernel, by decide +kernel⟩
  · exact ⟨92, .inr (.inr (.inr rfl)), by decide +kernel, by decide +kernel⟩
theorem Mk.facts {k : Nat} (h : Mk k) : k ≠ 10 ∧ k ≠ 9 ∧ k ≠ 13 ∧ k < 128 ∧ k ≠ 40 ∧ k ≠ 41 ∧ (k < 48 ∨ 57 < k) := by
  rcases h with rfl | rfl | rfl | rfl <;> decide
theorem rep_cd {m v : Int} {k : Nat} (h1 : Txt.item "|!\"\\" m = sg1 k) (h2 : Txt.mul (Txt.item "|!\"\\" m) 3 = ofC [k, k, k]) : cd (rep229 m v) = [50, 50, 57, 32, 40, k, k, k] ++ cd (dg v) ++ [k, 41] := by
  have e1 : cd ("229 (" : PySem.Str) = [50, 50, 57, 32, 40] := by decide +kernel
  have e2 : cd (")" : PySem.Str) = [41] := by decide +kernel
  show cd (("229 (" : PySem.Str) ++ Txt.mul (Txt.item "|!\"\\" m) 3 ++ dg v ++ Txt.item "|!\"\\" m ++ (")" : PySem.Str)) = _
  rw [cd_add, cd_add, cd_add, cd_add, h2, h1, e1, e2, cd_of, cd_sg]
  simp
theorem get_pre {a b : List Nat} {i : Nat} (h : i < a.length) : (a ++ b)[i]? = a[i]? := List.getElem?_append_left h
theorem is229 {r : PySem.Str} {v : Int} {k : Nat} (hk : Mk k) (h0 : 0 ≤ v) (h1 : v < 100) (e : cd r = [50, 50, 57, 32, 40, k, k, k] ++ cd (dg v) ++ [k, 41]) : Is229 r v ((cd (dg v)).length + 9 : Nat) "" "" "" (dg v) "" := by
  obtain ⟨d1, d2, d3, d4⟩ := digit_at h0 h1
  obtain ⟨_, _, _, _, k1, k2, k3⟩ := hk.facts
  generalize hD : cd (dg v) = D at *
  have hlen : r.length = D.length + 10 := by rw [← cd_len, e]; simp
  have el : (cd r).length = D.length + 10 := hlen
  have s1 : (Txt.slice r none (some 3)) = ("229" : PySem.Str) := by
    have := slice_to (x := r) (j := 3) (by rw [el]; omega)
    rw [show ((3 : Nat) : Int) = 3 from rfl] at this
    rw [this, e]; rfl
  have lp : ("(" : PySem.Str) = ⟨#[40]⟩ := by decide +kernel
  have rp : (")" : PySem.Str) = ⟨#[41]⟩ := by decide +kernel
  have i5 : (cd r)[5]? = some k := by rw [e]; rfl
  have i8 : (cd r)[D.length + 8]? = some k := by
    rw [e, List.append_assoc, List.getElem?_append_right (by simp), List.getElem?_append_right (by simp)]
    simp
  have i9 : (cd r)[D.length + 9]? = some 41 := by
    rw [e, List.append_assoc, List.getElem?_append_right (by simp), List.getElem?_append_right (by simp)]
    simp
  have mid : ∀ j, 5 ≤ j → j < D.length + 9 → (cd r)[j]? ≠ some 41 := by
    intro j j1 j2 q
    have hm : (cd r)[j]? = ([k, k, k] ++ D ++ [k])[j - 5]? := by
      rw [e, show [50, 50, 57, 32, 40, k, k, k] ++ D ++ [k, 41] = [50, 50, 57, 32, 40] ++ (([k, k, k] ++ D ++ [k]) ++ [41]) by simp]
      rw [List.getElem?_append_right (by simpa using j1), List.getElem?_append_left (by simp; omega)]
      rfl
    rw [hm] at q
    have mem := List.mem_of_getElem? q
    simp only [List.mem_append, List.mem_cons, List.not_mem_nil, or_false] at mem
    rcases mem with ((m | m | m) | m) | m
    · exact k2 m.symm
    · exact k2 m.symm
    · exact k2 m.symm
    · have := d1 41 m; omega
    · exact k2 m.symm
  have it5 : Txt.item r (4 + 1) = sg1 k := item_at (i := 5) i5
  have it8 : Txt.item r (((D.length + 9 : Nat) : Int) - 1) = sg1 k := by
    rw [show ((D.length + 9 : Nat) : Int) - 1 = ((D.length + 8 : Nat) : Int) by omega]
    exact item_at i8
  have sl : Txt.slice r (some (4 + 1)) (some ((D.length + 9 : Nat) : Int)) = ofC ([k, k, k] ++ D ++ [k]) := by
    have := slice_mid (x := r) (a := 5) (b := D.length + 9) (by omega) (by rw [el]; omega)
    rw [show ((5 : Nat) : Int) = 4 + 1 from rfl] at this
    rw [this, e]
    congr 2
    rw [show [50, 50, 57, 32, 40, k, k, k] ++ D ++ [k, 41] = [50, 50, 57, 32, 40] ++ (([k, k, k] ++ D ++ [k]) ++ [41]) by simp, List.drop_left' (by rfl), List.take_left' (by simp)]
  refine ⟨?_, ?_, ?_, ?_, by decide, by omega, by omega, ?_, by omega, by omega, ?_, ?_, ?_, ?_, ?_, d4⟩
  · rw [s1]; decide +kernel
  · rw [lp]
    refine find_at (i := 4) (by rw [e]; rfl) fun j hj q => ?_
    rw [e] at q
    rcases nat5 j (Nat.lt_trans hj (by decide)) with rfl | rfl | rfl | rfl | rfl
    · exact absurd (Option.some.inj q) (by decide)
    · exact absurd (Option.some.inj q) (by decide)
    · exact absurd (Option.some.inj q) (by decide)
    · exact absurd (Option.some.inj q) (by decide)
    · exact absurd hj (by decide)
  · rw [rp]; exact find3_at (lo := 5) (by omega) i9 mid
  · exact decide_eq_false (by omega)
  · exact fitsSsize_of (N := 9223372036854775808) (by omega) (by omega) (Int.le_refl _)
  · rw [it5, it8]; simp
  · rw [it5]; rfl
  · rw [sl, it5]
    refine split_is (by simp) (fun p hp => ?_) ?_ (by simp)
    · simp only [List.mem_cons, List.not_mem_nil, or_false] at hp
      rcases hp with rfl | rfl | rfl | rfl | rfl
      · rw [cd_e]; simp
      · rw [cd_e]; simp
      · rw [cd_e]; simp
      · rw [hD]; intro q; have := d1 k q; omega
      · rw [cd_e]; simp
    · rw [join_cons2, join_cons2, join_cons2, join_cons2, cd_e, hD, cd_of]
      show [] ++ k :: ([] ++ k :: ([] ++ k :: (D ++ k :: cd ("" : PySem.Str)))) = _
      rw [cd_e]; simp
  · rw [sl]; show (([k, k, k] ++ D ++ [k]).toArray).size + 2 ≤ sizeLine; have : 1000 ≤ sizeLine := by decide
    simp; omega
  · rw [← cd_len, hD]; omega

theorem rep229_ok {m v : Int} (m0 : 0 ≤ m) (m1 : m < 4) (h0 : 0 ≤ v) (h1 : v < 100) : RepOk (rep229 m v) ∧ LeafR (rep229 m v) (.num v) ∧ (Txt.mul (Txt.item "|!\"\\" m) 3).length ≤ 3 ∧ (dg v).length ≤ 3 := by
  obtain ⟨k, hk, e1, e2⟩ := mark_at m0 m1
  obtain ⟨d1, d2, d3, d4⟩ := digit_at h0 h1
  obtain ⟨k3, k4, k5, k6, _⟩ := hk.facts
  have e := rep_cd (v := v) e1 e2
  have hlen : (rep229 m v).length = (cd (dg v)).length + 10 := by rw [← cd_len, e]; simp
  have I := is229 hk h0 h1 e
  refine ⟨⟨⟨_, e⟩, fun c hc => ?_, by omega⟩, .port ?_ I (by omega) ?_, by rw [e2]; exact Nat.le_refl 3, d3⟩
  · rw [e] at hc
    simp only [List.mem_append, List.mem_cons, List.not_mem_nil, or_false] at hc
    have kk : ∀ {d}, d = k → d ≠ 10 ∧ d ≠ 9 ∧ d ≠ 13 ∧ d < 128 := fun h => by subst h; exact ⟨k3, k4, k5, k6⟩
    rcases hc with ((h | h | h | h | h | h | h | h) | h) | (h | h)
    all_goals first | exact kk h | (rw [h]; decide) | (have := d1 c h; omega)
  · have := I.h1
    show (_ == _) = true
    unfold bne at this
    cases q : (Txt.slice (rep229 m v) none (some 3) == ("229" : PySem.Str))
    · rw [q] at this; cases this
    · rfl
  · rw [bne_iff_ne]; intro q; rw [q, e_len] at hlen; omega
/-! a reply 257 -/
theorem sub2_pre {x : PySem.Str} : ∀ (l pre : List Nat) (a : PySem.Str), cd x = pre ++ (subC 34 [34, 34] l ++ [34]) → P257 x (pre.length : Int) a (a ++ ofC l)
  | [], pre, a, e => by
    have el : x.length = pre.length + 1 := by rw [← cd_len, e]; simp [subC]
    have i0 : (cd x)[pre.length]? = some 34 := by rw [e, List.getElem?_append_right (Nat.le_refl _)]; simp [subC]
    rw [of_nil]
    refine .close1 (decide_eq_true (by omega)) (by rw [item_at i0]; decide +kernel) (decide_eq_true (by omega))
  | c :: l, pre, a, e => by
    by_cases h : c = 34
    · subst h
      rw [subC_hit] at e
      have el : x.length = pre.length + (2 + ((subC 34 [34, 34] l).length + 1)) := by rw [← cd_len, e]; simp; omega
      have i0 : (cd x)[pre.length]? = some 34 := by rw [e, List.getElem?_append_right (Nat.le_refl _)]; simp
      have i1 : (cd x)[pre.length + 1]? = some 34 := by rw [e, List.getElem?_append_right (by omega)]; simp
      have t0 : Txt.item x (pre.length : Int) = sg1 34 := item_at i0
      have t1 : Txt.item x ((pre.length : Int) + 1) = sg1 34 := item_at (i := pre.length + 1) i1
      have ih := sub2_pre (x := x) l (pre ++ [34, 34]) (a ++ sg1 34) (by rw [e]; simp)
      rw [of_cons, List.length_append] at ih
      refine .dbl (decide_eq_true (by omega)) (by rw [t0]; decide +kernel) (decide_eq_false (by omega)) (by rw [t1]; decide +kernel) ?_
      rw [t0]
      exact ih
    · rw [subC_miss _ _ h] at e
      have el : x.length = pre.length + (1 + ((subC 34 [34, 34] l).length + 1)) := by rw [← cd_len, e]; simp; omega
      have i0 : (cd x)[pre.length]? = some c := by rw [e, List.getElem?_append_right (Nat.le_refl _)]; simp
      have t0 : Txt.item x (pre.length : Int) = sg1 c := item_at i0
      have ih := sub2_pre (x := x) l (pre ++ [c]) (a ++ sg1 c) (by rw [e]; simp)
      rw [of_cons, List.length_append] at ih
      refine .sgn (decide_eq_true (by omega)) (by rw [t0]; exact sg1_ne h) ?_
      rw [t0]
      exact ih
theorem rep257_cd (v : PySem.Str) : cd (rep257 v) = [50, 53, 55, 32, 34] ++ (subC 34 [34, 34] (cd v) ++ [34]) := by
  have e1 : cd ("257 \"" : PySem.Str) = [50, 53, 55, 32, 34] := by decide +kernel
  have e2 : cd ("\"\"" : PySem.Str) = [34, 34] := by decide +kernel
  have e3 : ("\"" : PySem.Str) = ⟨#[34]⟩ := by decide +kernel
  have e4 : cd (Txt.replace v "\"" "\"\"") = subC 34 [34, 34] (cd v) := by rw [e3, cd_replace, e2]
  show cd (("257 \"" : PySem.Str) ++ Txt.replace v "\"" "\"\"" ++ ("\"" : PySem.Str)) = _
  rw [cd_add, cd_add, e1, e4, q_cd]; simp
theorem rep257_ok {v : PySem.Str} (hv : ∀ c ∈ cd v, c ≠ 10 ∧ c ≠ 9 ∧ c ≠ 13 ∧ c < 128) (hl : v.length ≤ 2) : RepOk (rep257 v) ∧ LeafR (rep257 v) (.nam v) ∧ NamL v := by
  have e := rep257_cd v
  have hl' : (cd v).length ≤ 2 := hl
  have s2 := sub2_len 34 34 (cd v)
  have hlen : (rep257 v).length = (subC 34 [34, 34] (cd v)).length + 6 := by rw [← cd_len, e]; simp
  have el : (cd (rep257 v)).length = (subC 34 [34, 34] (cd v)).length + 6 := hlen
  have mem : ∀ l : List Nat, ∀ c ∈ subC 34 [34, 34] l, c = 34 ∨ c ∈ l := by
    intro l
    induction l with
    | nil => intro c h; exact nomatch h
    | cons k r ih =>
      intro c h
      by_cases q : k = 34
      · subst q
        rw [subC_hit] at h
        rcases List.mem_append.mp h with h | h
        · left; simpa using h
        · exact (ih c h).imp id (.tail _)
      · rw [subC_miss _ _ q] at h
        rcases List.mem_cons.mp h with h | h
        · exact .inr (h ▸ .head _)
        · exact (ih c h).imp id (.tail _)
  have cl : Cl (cd (rep257 v)) := by
    intro c hc
    rw [e] at hc
    simp only [List.mem_append, List.mem_cons, List.not_mem_nil, or_false] at hc
    rcases hc with (rfl | rfl | rfl | rfl | rfl) | hc | rfl
    any_goals decide
    rcases mem _ c hc with rfl | hc
    · decide
    · exact hv c hc
  have s1 : Txt.slice (rep257 v) none (some 3) = ("257" : PySem.Str) := by
    have := slice_to (x := rep257 v) (j := 3) (by rw [el]; omega)
    rw [show ((3 : Nat) : Int) = 3 from rfl] at this
    rw [this, e]; rfl
  have s5 : Txt.slice (rep257 v) (some 3) (some 5) = (" \"" : PySem.Str) := by
    have := slice_mid (x := rep257 v) (a := 3) (b := 5) (by decide) (by rw [el]; omega)
    rw [show ((3 : Nat) : Int) = 3 from rfl, show ((5 : Nat) : Int) = 5 from rfl] at this
    rw [this, e]; rfl
  have P := sub2_pre (x := rep257 v) (cd v) [50, 53, 55, 32, 34] "" e
  rw [of_e, ← of_cd] at P
  have q1 : (hide1 (rep257 v)).length ≤ 2 * (cd (rep257 v)).length := by rw [← cd_len, hide1_cd]; exact sub2_len 92 92 _
  have q2 : (hide (rep257 v)).length ≤ 2 * (cd (rep257 v)).length := by rw [← cd_len, hide_cd]; exact escQ_len _
  have e4 : (Txt.replace v "\"" "\"\"").length = (subC 34 [34, 34] (cd v)).length := by
    have e3 : ("\"" : PySem.Str) = ⟨#[34]⟩ := by decide +kernel
    have e2 : cd ("\"\"" : PySem.Str) = [34, 34] := by decide +kernel
    rw [e3, ← cd_len, cd_replace, e2]
  refine ⟨⟨⟨_, e⟩, cl, by omega⟩, .name ?_ ?_ (by omega) ?_ ?_ ?_ (by omega) P, ⟨by omega, by rw [e4]; omega, by omega, by omega⟩⟩
  · show (_ == _) = false
    rw [s1]; decide +kernel
  · show (_ == _) = true
    rw [s1]; decide +kernel
  · rw [bne_iff_ne]; intro q; rw [q, e_len] at hlen; omega
  · rw [s1]; decide +kernel
  · rw [s5]; decide +kernel
noncomputable def OVok : OV → Prop
  | .num _ => True
  | .nam d => ∀ c ∈ cd d, c < 128
noncomputable def Nm (c : Nat) : Prop := c = 34 ∨ c = 92 ∨ c = 32 ∨ c = 41 ∨ c = 97
theorem name_at {i : Int} (h0 : 0 ≤ i) (h1 : i < 5) : ∃ c, Nm c ∧ Txt.item "\"\\ )a" i = sg1 c := by
  have := int5 h0 h1
  rcases this with rfl | rfl | rfl | rfl | rfl
  · exact ⟨34, .inl rfl, by decide +kernel⟩
  · exact ⟨92, .inr (.inl rfl), by decide +kernel⟩
  · exact ⟨32, .inr (.inr (.inl rfl)), by decide +kernel⟩
  · exact ⟨41, .inr (.inr (.inr (.inl rfl))), by decide +kernel⟩
  · exact ⟨97, .inr (.inr (.inr (.inr rfl))), by decide +kernel⟩
theorem Nm.facts {c : Nat} (h : Nm c) : c ≠ 10 ∧ c ≠ 9 ∧ c ≠ 13 ∧ c < 128 := by
  rcases h with rfl | rfl | rfl | rfl | rfl <;> decide
theorem jIx_at (x : Int) (k : Nat) : ∃ c, Nm c ∧ jIx x k = sg1 c := name_at (Int.fmod_nonneg_of_pos _ (by decide)) (Int.fmod_lt_of_pos _ (by decide))
theorem nam_facts {v : PySem.Str} {l : List Nat} (e : cd v = l) (h : ∀ c ∈ l, Nm c) (hl : l.length ≤ 2) : RepOk (rep257 v) ∧ LeafR (rep257 v) (.nam v) ∧ NamL v ∧ OVok (.nam v) := by
  obtain ⟨a, b, c⟩ := rep257_ok (v := v) (fun c hc => (h c (e ▸ hc)).facts) (by rw [← cd_len, e]; exact hl)
  exact ⟨a, b, c, fun c hc => (h c (e ▸ hc)).facts.2.2.2⟩
theorem nam0_ok : RepOk (rep257 nam0) ∧ LeafR (rep257 nam0) (.nam nam0) ∧ NamL nam0 ∧ OVok (.nam nam0) :=
  nam_facts (l := []) (by decide +kernel) (fun _ h => nomatch h) (by decide)
theorem nam1_ok (x : Int) : RepOk (rep257 (nam1 x)) ∧ LeafR (rep257 (nam1 x)) (.nam (nam1 x)) ∧ NamL (nam1 x) ∧ OVok (.nam (nam1 x)) := by
  obtain ⟨c, hc, e⟩ := jIx_at x 0
  refine nam_facts (l := [c]) ?_ (fun d hd => by rw [List.mem_singleton.mp hd]; exact hc) (by simp)
  show cd (Txt.join "" [jIx x 0]) = _
  rw [join_cd, e]; simp [cd_sg]
theorem nam2_ok (x : Int) : RepOk (rep257 (nam2 x)) ∧ LeafR (rep257 (nam2 x)) (.nam (nam2 x)) ∧ NamL (nam2 x) ∧ OVok (.nam (nam2 x)) := by
  obtain ⟨c, hc, e⟩ := jIx_at x 0
  obtain ⟨d, hd, e'⟩ := jIx_at x (0 + 1)
  refine nam_facts (l := [c, d]) ?_ (fun f hf => ?_) (by simp)
  · show cd (Txt.join "" [jIx x 0, jIx x (0 + 1)]) = _
    rw [join_cd, e, e']; simp [cd_sg]
  · simp only [List.mem_cons, List.not_mem_nil, or_false] at hf
    rcases hf with rfl | rfl <;> assumption
section
variable {w : World} {s : Shared} {x : Int} {tx : Tok} {Q E : Value → Shared → Prop}
/-- _law_operand, whole -/
theorem operand_spec (G : Gd w s.heap []) (h0 : 0 ≤ x) (h1 : x < 1000000)
    (hQ : ∀ h' q t vv r o tk, Keeps s.heap h' → h'.get? q = some (tupO [.str (wordOf x r) t, vv]) → s.heap.get? q = none → OVv vv o → Wd (wordOf x r) r → LeafR r o → OVok o → Q (.ref q) { s with heap := h', toks := tk }) :
    wpAny (model P0 w) (At 460 2600) (call (.ref 316) [.int x tx]) Q E s := by
  cases h2 : (x.fmod 2 == 0)
  · have hm : 0 ≤ (x.fdiv 4).fmod 3 ∧ (x.fdiv 4).fmod 3 < 3 := ⟨Int.fmod_nonneg_of_pos _ (by decide), Int.fmod_lt_of_pos _ (by decide)⟩
    have := int3 hm.1 hm.2
    rcases this with hk | hk | hk
    · obtain ⟨a, b, c, d⟩ := nam0_ok
      exact operand_odd0 G h0 h1 h2 hk c fun h' q t1 t2 tk k e n => hQ h' q t1 _ _ (.nam nam0) tk k e n ⟨_, rfl⟩ (wd_word x a) b d
    · obtain ⟨a, b, c, d⟩ := nam1_ok x
      exact operand_odd1 G h0 h1 h2 hk c fun h' q t1 t2 tk k e n => hQ h' q t1 _ _ (.nam (nam1 x)) tk k e n ⟨_, rfl⟩ (wd_word x a) b d
    · obtain ⟨a, b, c, d⟩ := nam2_ok x
      exact operand_odd2 G h0 h1 h2 hk c fun h' q t1 t2 tk k e n => hQ h' q t1 _ _ (.nam (nam2 x)) tk k e n ⟨_, rfl⟩ (wd_word x a) b d
  · have m0 : 0 ≤ mIx x := Int.fmod_nonneg_of_pos _ (by decide)
    have m1 : mIx x < 4 := Int.fmod_lt_of_pos _ (by decide)
    have v0 : 0 ≤ vIx x := Int.fmod_nonneg_of_pos _ (by decide)
    have v1 : vIx x < 100 := Int.fmod_lt_of_pos _ (by decide)
    obtain ⟨a, b, c, d⟩ := rep229_ok m0 m1 v0 v1
    have hl : ("|!\"\\" : PySem.Str).length = 4 := by decide +kernel
    have hc : (cd (rep229 (mIx x) (vIx x))).length ≤ 40 := a.len
    have q1 : (hide1 (rep229 (mIx x) (vIx x))).length ≤ 2 * (cd (rep229 (mIx x) (vIx x))).length := by rw [← cd_len, hide1_cd]; exact sub2_len 92 92 _
    have q2 : (hide (rep229 (mIx x) (vIx x))).length ≤ 2 * (cd (rep229 (mIx x) (vIx x))).length := by rw [← cd_len, hide_cd]; exact escQ_len _
    exact operand_even G h0 h1 h2 (fitsSsize_of (N := 9223372036854775808) (by omega) (by omega) (Int.le_refl _)) (by rw [hl]; omega) (by rw [hl]; omega) c d (by omega) (by omega) fun h' q t1 t2 tk k e n => hQ h' q t1 _ _ (.num (vIx x)) tk k e n ⟨_, rfl⟩ (wd_word x a) b trivial
end
end
section
open PySem PySem.W PyProof.Rows PySem.Spec PySem.Calls Builtin Builtin.Str
/-- a formula, by the tuples in R -/
noncomputable def HTR (R : List (Addr × Obj)) : Value → Tr → Prop
  | v, .leaf w o => ∃ q t vv, v = .ref q ∧ (q, tupO [.str w t, vv]) ∈ R ∧ OVv vv o
  | v, .node sg l r => ∃ q t lv rv, v = .ref q ∧ (q, tupO [.str sg t, lv, rv]) ∈ R ∧ HTR R lv l ∧ HTR R rv r
theorem HTR.mono {R R' : List (Addr × Obj)} (h : ∀ p ∈ R, p ∈ R') : ∀ {T : Tr} {v : Value}, HTR R v T → HTR R' v T := by
  intro T
  induction T with
  | leaf _ _ =>
    intro v H
    obtain ⟨q, t, vv, e, m, c⟩ := H
    exact ⟨q, t, vv, e, h _ m, c⟩
  | node _ _ _ il ir =>
    intro v H
    obtain ⟨q, t, lv, rv, e, m, a, b⟩ := H
    exact ⟨q, t, lv, rv, e, h _ m, il a, ir b⟩
theorem HTR.heap {R : List (Addr × Obj)} {g h : Heap} (N : ∀ p ∈ R, h.get? p.1 = some p.2 ∧ g.get? p.1 = none) : ∀ {T : Tr} {v : Value}, HTR R v T → HT g h v T := by
  intro T
  induction T with
  | leaf _ _ =>
    intro v H
    obtain ⟨q, t, vv, e, m, c⟩ := H
    exact ⟨q, t, vv, e, (N _ m).1, (N _ m).2, c⟩
  | node _ _ _ il ir =>
    intro v H
    obtain ⟨q, t, lv, rv, e, m, a, b⟩ := H
    exact ⟨q, t, lv, rv, e, (N _ m).1, (N _ m).2, il a, ir b⟩
theorem HTR.ref {R : List (Addr × Obj)} {T : Tr} {v : Value} (h : HTR R v T) : ∃ q, v = .ref q := by
  cases T with
  | leaf _ _ => obtain ⟨q, _, _, e, _⟩ := h; exact ⟨q, e⟩
  | node _ _ _ => obtain ⟨q, _, _, _, e, _⟩ := h; exact ⟨q, e⟩
/-- a formula's words and what is read of them -/
inductive TrG : Tr → Tr → Prop
  | leaf {x r : PySem.Str} {o : OV} : Wd x r → LeafR r o → OVok o → TrG (.leaf x o) (.leaf r o)
  | node {sg : PySem.Str} {l r l' r' : Tr} : Sgn sg → TrG l l' → TrG r r' → TrG (.node sg l r) (.node sg l' r')
theorem TrG.rd {T T' : Tr} (h : TrG T T') : T'.rd := by
  induction h with
  | leaf a b c => exact b
  | node a _ _ ih1 ih2 => exact ⟨a, ih1, ih2⟩
theorem TrG.ok {T T' : Tr} (h : TrG T T') : T.ok := by
  induction h with
  | leaf a b c => trivial
  | node a _ _ ih1 ih2 => exact ⟨(sgn_facts a).2.1, ih1, ih2⟩
theorem TrG.need {T T' : Tr} (h : TrG T T') (sg : PySem.Str) (f : Bool) : need sg f T = need sg f T' := by cases h <;> rfl
theorem TrG.told {T T' : Tr} (h : TrG T T') : ∀ p, (tell T p).2 = (tell T' p).2 := by
  induction h with
  | leaf a b c => intro p; rfl
  | node a h1 h2 ih1 ih2 =>
    intro p
    simp only [tell, h1.need, h2.need]
    congr 1
    congr 1
    · split <;> simp only [ih1]
    · split <;> simp only [ih2]
theorem All2.one {R : PySem.Str → PySem.Str → Prop} {x y : PySem.Str} (h : R x y) : All2 R [x] [y] := .cons h .nil
theorem TrG.words {T T' : Tr} (h : TrG T T') : ∀ p, All2 Wd (tell T p).1 (tell T' p).1 := by
  induction h with
  | leaf a b c => intro p; exact .one a
  | node a h1 h2 ih1 ih2 =>
    intro p
    simp only [tell, h1.need, h2.need]
    refine .app (.app ?_ (.one (wd_sgn a))) ?_
    · split
      · exact .app (.app (.one wd_lp) (ih1 _)) (.one wd_rp)
      · exact ih1 _
    · split
      · exact .app (.app (.one wd_lp) (ih2 _)) (.one wd_rp)
      · exact ih2 _
/-- what is told has signs that may be laid -/
noncomputable def TEok : TE → Prop
  | .sgn s => ∀ c ∈ cd s, c < 128
  | .port p _ => ∀ c ∈ cd p, c < 128
  | .name p d => (∀ c ∈ cd p, c < 128) ∧ ∀ c ∈ cd d, c < 128
theorem sgn_low {s : PySem.Str} (h : Sgn s) : ∀ c ∈ cd s, c < 128 := by
  rcases h with rfl | rfl | rfl <;> decide +kernel
theorem lp_low : ∀ c ∈ cd ("(" : PySem.Str), c < 128 := by decide +kernel
theorem add_low {a b : PySem.Str} (h1 : ∀ c ∈ cd a, c < 128) (h2 : ∀ c ∈ cd b, c < 128) : ∀ c ∈ cd (a ++ b), c < 128 := fun c hc => by
  rw [cd_add] at hc; exact (List.mem_append.mp hc).elim (h1 c) (h2 c)
theorem TrG.low {T T' : Tr} (h : TrG T T') : ∀ p, (∀ c ∈ cd p, c < 128) → ∀ e ∈ (tell T p).2, TEok e := by
  induction h with
  | leaf a b c =>
    intro p hp e he
    rw [List.mem_singleton.mp he]
    cases b with
    | port _ _ _ _ => exact hp
    | name _ _ _ _ _ _ _ _ => exact ⟨hp, c⟩
  | node a h1 h2 ih1 ih2 =>
    intro p hp e he
    simp only [tell, w1, w2 _ a] at he
    rcases List.mem_append.mp he with he | he
    · rcases List.mem_append.mp he with he | he
      · split at he
        · exact ih1 _ (add_low hp lp_low) e he
        · exact ih1 _ hp e he
      · split at he
        · exact ih2 _ (add_low (add_low hp (sgn_low a)) lp_low) e he
        · exact ih2 _ (add_low hp (sgn_low a)) e he
    · rw [List.mem_singleton.mp he]; exact sgn_low a
/-- a part of the formula under way -/
structure PartOk (R : List (Addr × Obj)) (n : Nat) (v : Value) (T : Tr) : Prop where
  ht : HTR R v T
  good : ∃ T', TrG T T'
  le : T.ht ≤ n
theorem PartOk.mono {R R' : List (Addr × Obj)} {n n' : Nat} (h : ∀ p ∈ R, p ∈ R') (hn : n ≤ n') : ∀ v T, PartOk R n v T → PartOk R' n' v T := fun _ _ x => ⟨x.ht.mono h, x.good, Nat.le_trans x.le hn⟩
namespace ArrIs
variable {α : Type} {rel : Value → α → Prop} {a : Array Value} {l : List α}
theorem upto (A : ArrIs rel a l) {k : Nat} (hk : k ≤ l.length) : ArrIs rel (slicePick a none (some (k : Int)) none) (l.take k) := by
  rw [slicePick_upto a k (by rw [A.size]; exact hk)]
  refine ⟨by simp [A.size], fun j e h => ?_⟩
  have hj : j < k := by
    have := (List.getElem?_eq_some_iff.mp h).1
    simp at this; omega
  rw [List.getElem?_take_of_lt hj] at h
  obtain ⟨v, x, y⟩ := A.at_ j e h
  refine ⟨v, ?_, y⟩
  simp only [List.getElem?_toArray]
  rw [List.getElem?_take_of_lt hj]
  simpa using x
theorem from_ (A : ArrIs rel a l) {k : Nat} (hk : k ≤ l.length) : ArrIs rel (slicePick a (some (k : Int)) none none) (l.drop k) := by
  rw [slicePick_from a k (by rw [A.size]; exact hk)]
  refine ⟨by simp [A.size], fun j e h => ?_⟩
  rw [List.getElem?_drop] at h
  obtain ⟨v, x, y⟩ := A.at_ (k + j) e h
  refine ⟨v, ?_, y⟩
  simp only [List.getElem?_toArray, List.getElem?_drop]
  simpa using x
end ArrIs
/-- the joining of two neighbours -/
theorem parts_join {R R' : List (Addr × Obj)} {n : Nat} {pv : Array Value} {PT : List Tr} {k : Nat} {sg : PySem.Str} {q : Addr} {t : Tok} {va vb : Value} (A : ArrIs (PartOk R n) pv PT) (hk : k + 1 < PT.length) (hs : Sgn sg) (ha : pv[k]? = some va) (hb : pv[k + 1]? = some vb)
    (hR : ∀ p ∈ R, p ∈ R') (hq : (q, tupO [.str sg t, va, vb]) ∈ R') :
    ∃ PT', PT'.length + 1 = PT.length ∧ ArrIs (PartOk R' (n + 1)) (slicePick pv none (some (k : Int)) none ++ #[.ref q] ++ slicePick pv (some ((k : Int) + 2)) none none) PT' := by
  obtain ⟨Ta, ea⟩ : ∃ Ta, PT[k]? = some Ta := ⟨_, List.getElem?_eq_getElem (by omega)⟩
  obtain ⟨Tb, eb⟩ : ∃ Tb, PT[k + 1]? = some Tb := ⟨_, List.getElem?_eq_getElem hk⟩
  obtain ⟨va', xa, pa⟩ := A.at_ k Ta ea
  obtain ⟨vb', xb, pb⟩ := A.at_ (k + 1) Tb eb
  rw [ha] at xa; cases xa
  rw [hb] at xb; cases xb
  obtain ⟨Ta', ga⟩ := pa.good
  obtain ⟨Tb', gb⟩ := pb.good
  have A' := A.mono (PartOk.mono hR (Nat.le_succ n))
  have e2 : ((k : Int) + 2) = ((k + 2 : Nat) : Int) := by omega
  rw [e2]
  have P1 : PartOk R' (n + 1) (.ref q) (.node sg Ta Tb) := by
    refine ⟨⟨q, t, va, vb, rfl, hq, pa.ht.mono hR, pb.ht.mono hR⟩, ⟨_, .node hs ga gb⟩, ?_⟩
    show Nat.max Ta.ht Tb.ht + 1 ≤ n + 1
    have : Nat.max Ta.ht Tb.ht ≤ n := Nat.max_le.mpr ⟨pa.le, pb.le⟩
    omega
  exact ⟨PT.take k ++ [.node sg Ta Tb] ++ PT.drop (k + 2), by simp; omega, ((A'.upto (by omega)).append (ArrIs.one P1)).append (A'.from_ (by omega))⟩
theorem sgn_item {i : Int} (h0 : 0 ≤ i) (h1 : i < 3) : Sgn (Txt.item "-/^" i) := by
  have : i = 0 ∨ i = 1 ∨ i = 2 := by omega
  rcases this with rfl | rfl | rfl
  · exact .inl (by decide +kernel)
  · exact .inr (.inl (by decide +kernel))
  · exact .inr (.inr (by decide +kernel))

/-- what both sides of the law's end say -/
noncomputable abbrev lawD (T : List TE) (E : List Int) : PyData := .tuple [.list (T.map TE.data), .list (E.map .int), .tuple [.str "", .str ""]]
theorem str_ok {x : PySem.Str} (h : ∀ c ∈ cd x, c < 128) : PyData.strOk x = true := by
  unfold PyData.strOk
  rw [← Array.all_toList, List.all_eq_true]
  intro c hc
  have := h c hc
  exact decide_eq_true (by omega)
theorem te_lay {e : TE} (h : TEok e) : e.data.canLay0 = true := by
  cases e with
  | sgn s => exact str_ok h
  | port p n => show (PyData.tuple [.str p, .int n]).canLay0 = true; simp [PyData.canLay0, PyData.canLayAll0, str_ok h]
  | name p d => show (PyData.tuple [.str p, .str d]).canLay0 = true; simp [PyData.canLay0, PyData.canLayAll0, str_ok h.1, str_ok h.2]
theorem all_lay {α : Type} {f : α → PyData} : ∀ {l : List α}, (∀ e ∈ l, (f e).canLay0 = true) → PyData.canLayAll0 (l.map f) = true
  | [], _ => rfl
  | e :: r, h => by
    show ((f e).canLay0 && PyData.canLayAll0 (r.map f)) = true
    rw [h e (.head _), all_lay fun x hx => h x (.tail _ hx)]; rfl
theorem all_depth {α : Type} {f : α → PyData} {n : Nat} (h : ∀ e, (f e).depth ≤ n) : ∀ l : List α, PyData.depthAll (l.map f) ≤ n
  | [] => Nat.zero_le _
  | e :: r => Nat.max_le.mpr ⟨h e, all_depth h r⟩
theorem lawD_lay {T : List TE} {E : List Int} (h : ∀ e ∈ T, TEok e) : (lawD T E).canLay0 = true := by
  have a : PyData.canLayAll0 (T.map TE.data) = true := all_lay fun e he => te_lay (h e he)
  have b : PyData.canLayAll0 (E.map PyData.int) = true := all_lay fun e _ => rfl
  have c : PyData.strOk "" = true := by decide +kernel
  simp [PyData.canLay0, PyData.canLayAll0, a, b, c]
theorem lawD_depth (T : List TE) (E : List Int) : (lawD T E).depth ≤ 8 := by
  have a : PyData.depthAll (T.map TE.data) ≤ 4 := all_depth (fun e => by cases e <;> simp [TE.data, PyData.depth, PyData.depthAll]) T
  have b : PyData.depthAll (E.map PyData.int) ≤ 4 := all_depth (fun e => Nat.zero_le _) E
  simp only [PyData.depth, PyData.depthAll]
  exact Nat.succ_le_succ (Nat.max_le.mpr ⟨Nat.le_trans (Nat.succ_le_succ a) (by decide), Nat.max_le.mpr ⟨Nat.le_trans (Nat.succ_le_succ b) (by decide), by decide⟩⟩)
theorem eq_law {w : World} {A : Around} {s : Shared} {Q E : Value → Shared → Prop} {a b : Value} {as bs : List Addr} {T : List TE} {Ev : List Int} (ra : Reads s.heap a (lawD T Ev) as) (rb : Reads s.heap b (lawD T Ev) bs) (hT : ∀ e ∈ T, TEok e) (hu : A.units + 8 < cLine) (h : Q (.bool true) s) :
    wpAny (model P0 w) A (compareOp .Eq a b) Q E s := by
  have l := lawD_lay (E := Ev) hT
  have d := lawD_depth T Ev
  refine PySem.SeqAt.compareEq_reads ra rb l l (by have : min (lawD T Ev).depth (lawD T Ev).depth ≤ (lawD T Ev).depth := Nat.min_le_left _ _; omega) ?_
  rw [PySem.SeqAt.eqv_refl _ l]
  exact h
end
section
open PySem PySem.W PyProof.Rows PySem.Spec PySem.Calls Builtin Builtin.Str
section
variable {w : World} {s : Shared} {A : Around} {E : Value → Shared → Prop} {g : Heap} {L : Addr} {m : PySem.Str → Option Value} {news : List (Addr × Obj)}
theorem sum_pick {D : Addr} {vs : List Value} {ns : List Int} {lo hi st : Option Int} {n : Nat} {Q : Value → Shared → Prop} (hh : A.handled = none) (F : Fr g L s.heap m) (N : News g L s.heap ((D, listO (slicePick vs.toArray lo hi st) n) :: news)) (hI : IntsAre vs ns)
    (h : ∀ h' tk t' S, Fr g L h' m → News g L h' news → Q (.int S t') { s with heap := h', toks := tk }) : wpAny (model P0 w) A (call (.builtin "sum") [.ref D]) Q E s := by
  have hl : s.heap.IsList D (slicePick vs.toArray lo hi st).toList.toArray := by
    have := PySem.IsL.isList (n := n) (N _ (.head _)).1
    simpa using this
  exact sumK hh F N hl (hI.pick lo hi st) fun h' tk t' F' N' => h h' tk t' _ F' fun p hp => N' p (.tail _ hp)
theorem mod_gen {a : Int} {t u : Tok} {Q : Value → Shared → Prop} (h : ∀ c t' tk, 0 ≤ c → c < 1000000 → Q (.int c t') { s with toks := tk }) : wpAny (model P0 w) A (binaryOp .Mod (.int a t) (.int (10 ^ Int.toNat 6) u)) Q E s :=
  have e : ((10 : Int) ^ Int.toNat 6) = 1000000 := by decide
  mod_int (by rw [e]; decide) (h _ _ _ (Int.fmod_nonneg_of_pos _ (by rw [e]; decide)) (by have z := Int.fmod_lt_of_pos a (b := 10 ^ Int.toNat 6) (by rw [e]; decide); omega))
theorem mod_nat {a b : Int} {t u : Tok} {Q : Value → Shared → Prop} (hb : 0 < b) (h : ∀ (k : Nat) t' tk, (k : Int) < b → Q (.int (k : Int) t') { s with toks := tk }) : wpAny (model P0 w) A (binaryOp .Mod (.int a t) (.int b u)) Q E s := by
  refine mod_int (by omega) ?_
  have h0 := Int.fmod_nonneg_of_pos a hb
  have h1 := Int.fmod_lt_of_pos a hb
  obtain ⟨k, hk⟩ := Int.eq_ofNat_of_zero_le h0
  rw [hk] at h1 ⊢
  exact h k _ _ h1
theorem mod_at {a : Int} {pv : Array Value} {n : Nat} {t u : Tok} {Q : Value → Shared → Prop} (hn : pv.size = n) (hb : 1 < n)
    (h : ∀ (k : Nat) t' tk va vb, k + 1 < n → pv[(k : Int).toNat]? = some va → pv[((k : Int) + 1).toNat]? = some vb → Q (.int (k : Int) t') { s with toks := tk }) : wpAny (model P0 w) A (binaryOp .Mod (.int a t) (.int ((n : Int) - 1) u)) Q E s :=
  mod_nat (by omega) fun k t' tk hk => by
    have h0 : k < pv.size := by omega
    have h1 : k + 1 < pv.size := by omega
    refine h k t' tk pv[k] pv[k + 1] (by omega) ?_ ?_
    · rw [Int.toNat_natCast]; exact Array.getElem?_eq_getElem h0
    · rw [show ((k : Int) + 1).toNat = k + 1 by omega]; exact Array.getElem?_eq_getElem h1
theorem div_le {a b : Int} {t u : Tok} {Q : Value → Shared → Prop} (ha : 0 ≤ a) (ha2 : a ≤ 6000000) (hb : 0 < b) (hb2 : b ≤ 100) (h : ∀ c t' tk, 0 ≤ c → c ≤ 6000000 → Q (.int c t') { s with toks := tk }) : wpAny (model P0 w) A (binaryOp .FloorDiv (.int a t) (.int b u)) Q E s := by
  have e : a.fdiv b = a / b := Int.fdiv_eq_ediv_of_nonneg a (by omega)
  refine floordiv_int (by omega) (h _ _ _ (by rw [e]; exact Int.ediv_nonneg ha (by omega)) (by rw [e]; exact Int.le_trans (Int.ediv_le_self b ha) ha2)) (Or.inl (PyProof.noPylong_small (by omega)))
theorem slice_gen {value slice : PySem.Expr} {l : Addr} {items : Array Value} {n : Nat} {vl vu : Value} {lo hi : Option Int} {Q : Value → Shared → Prop} (F : Fr g L s.heap m) (N : News g L s.heap news) (hm : (l, listO items n) ∈ news) (pl : IsPart vl lo) (pu : IsPart vu hi) (hz : items.size ≤ sizeLine)
    (h : ∀ D h' va, va = slicePick items lo hi none → va.size ≤ items.size → Fr g L h' m → News g L h' ((D, listO va) :: news) → (∀ p ∈ news, p.1 < D) → Q (.ref D) { s with heap := h' })
    (hs : subscripted slice false (.ref l) (.ref s.heap.objs.size) = operate [.ref s.heap.objs.size, .ref l] (getItem (.ref l) (.ref s.heap.objs.size)) := by with_unfolding_all rfl)
    (ht : ∀ r, letTemporaryGo value (.ref l) r = pure () := by intro _; with_unfolding_all rfl) :
    wpAny (model P0 w) A (subscriptTail value slice (.ref l) (.ref s.heap.objs.size)) Q E { s with heap := s.heap.push { cls := .type "slice", data := .fields #[vl, vu, .none] } } :=
  slice_list F N (PySem.IsL.isList (n := n) (N _ hm).1) pl pu (fun h' F' N' => h _ h' _ rfl (slicePick_size_le _ _ _ _) F' N' fun p hp => Nat.lt_succ_of_lt (Heap.lt_size (N p hp).1)) hs ht hz
theorem operand_W {x : Int} {tx : Tok} {Q : Value → Shared → Prop} (B : Bs w g) (F : Fr g L s.heap m) (N : News g L s.heap news) (h0 : 0 ≤ x) (h1 : x < 1000000) (hA : Le A (At 460 2600))
    (h : ∀ h' q t vv r o tk, Fr g L h' m → News g L h' ((q, tupO [.str (wordOf x r) t, vv]) :: news) → OVv vv o → Wd (wordOf x r) r → LeafR r o → OVok o → (∀ p ∈ news, p.1 ≠ q) → Q (.ref q) { s with heap := h', toks := tk }) : wpAny (model P0 w) A (call (.ref 316) [.int x tx]) Q E s :=
  at_le hA (operand_spec (gdN B F N (fun a h => nomatch h)) h0 h1 fun h' q t vv r o tk k e n ov wd lf ok => h h' q t vv r o tk (fr_keeps F k) (news_add F (news_keeps N k) n e) ov wd lf ok (ne_new N n))
theorem ends_W {q : Addr} {W : List PySem.Str} {wv : Array Value} {kw : Nat} {wd : Int} {tw : Tok} {Q : Value → Shared → Prop} (B : Bs w g) (F : Fr g L s.heap m) (N : News g L s.heap news) (hq : (q, listO wv kw) ∈ news) (AW : ArrIs StrV wv W) (hl : W.length < 1000) (hw : ∀ x ∈ W, 1 ≤ x.length ∧ x.length ≤ 1000) (hwd : wd ≤ 1000) (hA : Le A (At 460 2600))
    (h : ∀ h' el ev ke tk, Fr g L h' m → News g L h' ((el, listO ev ke) :: news) → (∀ p ∈ news, p.1 ≠ el) → ArrIs EndV ev (endsF wd W "" 1 0 []) → Q (.ref el) { s with heap := h', toks := tk }) : wpAny (model P0 w) A (call (.ref 330) [.ref q, .int wd tw]) Q E s :=
  at_le hA (ends_spec B F.keep (N _ hq).2.2 (N _ hq).1 AW hl hw hwd fun h' el ev ke tk k e n a => h h' el ev ke tk (fr_keeps F k) (news_add F (news_keeps N k) n e) (ne_new N n) a)
/-- a frame over a call that turns what is not the frame's -/
theorem fr_butn {h' : Heap} {S : List Addr} (F : Fr g L s.heap m) (k : KeepsBut S s.heap h') (hL : L ∉ S) (hg : ∀ a ∈ S, g.get? a = none) : Fr g L h' m := by
  refine ⟨?_, fun b o e => k _ _ (fun q => ?_) (F.keep b o e), F.above⟩
  · obtain ⟨oL, es, ep, hL', r⟩ := F.ns
    exact ⟨oL, es, ep, k _ _ hL hL', r⟩
  · rw [hg b q] at e; cases e
theorem news_butn {h' : Heap} {S : List Addr} (N : News g L s.heap news) (k : KeepsBut S s.heap h') (hn : ∀ p ∈ news, p.1 ∉ S) : News g L h' news := fun p hp => ⟨k _ _ (hn p hp) (N p hp).1, (N p hp).2⟩
theorem chunk_W {C : FmC} {wd : Int} {st : FSt} {word : PySem.Str} {t0 tw : Tok} {NB : List (Addr × Obj)} {Q : Value → Shared → Prop} (FE : FmE C.eF wd C.l C.x) (o1 : @LT.lt Nat _ C.dp C.p) (o2 : @LT.lt Nat _ C.p C.l) (o3 : @LT.lt Nat _ C.l C.dx) (o4 : @LT.lt Nat _ C.dx C.x) (o0 : @LE.le Nat _ 343 C.dp)
    (hsm : Small st.1) (hsm2 : Small (st.1 ++ [((" " : PySem.Str), word)])) (hlz : st.2.length < 1000000) (B : Bs w g) (F : Fr g L s.heap m) (N : News g L s.heap ((C.p, instObj 116 C.dp) :: (C.dp, dictOf C.eF C.nF) :: NB)) (hL : L ∉ C.own) (hNB : ∀ p ∈ NB, p.1 ∉ C.own) (n0 : ∀ a ∈ C.own, g.get? a = none) (M : Fm g s.heap C st) (hA : Le A (At 460 2600))
    (h : ∀ h' gs' tk, Fr g L h' m → News g L h' ((C.p, instObj 116 C.dp) :: (C.dp, dictOf C.eF C.nF) :: NB) → Fm g h' C (chunkS wd st word) → (AllBare s.gens → AllBare gs') → Q .none { s with heap := h', gens := gs', toks := tk }) :
    wpAny (model P0 w) A (call (.ref 113) [.ref C.p, .str " " t0, .str word tw]) Q E s := by
  refine at_le hA (chunk_spec (ls := st.2) C rfl FE o1 o2 o3 o4 o0 hsm hsm2 hlz B F.keep n0 M fun h' gs' tk k M' b => ?_)
  have Np := N _ (.head _)
  have Nd := N _ (.tail _ (.head _))
  refine h h' gs' tk (fr_butn F k hL n0) (fun p hp => ?_) M' b
  rcases List.mem_cons.mp hp with rfl | hp
  · exact ⟨M'.p_, Np.2⟩
  · rcases List.mem_cons.mp hp with rfl | hp
    · exact ⟨M'.dp_, Nd.2⟩
    · exact news_butn (fun p hp => N p (.tail _ (.tail _ hp))) k hNB p hp
theorem str_fm_W {C : FmC} {wd : Int} {ws0 : List (PySem.Str × PySem.Str)} {f v : PySem.Str} {ls : List PySem.Str} {tn : Tok} {NB : List (Addr × Obj)} {Q : Value → Shared → Prop} (FE : FmE C.eF wd C.l C.x) (o1 : @LT.lt Nat _ C.dp C.p) (o2 : @LT.lt Nat _ C.p C.l) (o3 : @LT.lt Nat _ C.l C.dx) (o4 : @LT.lt Nat _ C.dx C.x) (o0 : @LE.le Nat _ 343 C.dp)
    (hsm : Small (ws0 ++ [(f, v)])) (hlz : ls.length < 1000000) (hv : v ≠ "") (of : PyData.strOk f = true) (ov : PyData.strOk v = true) (hpos : 0 < ((ws0 ++ [(f, v)]).map wlen).sum) (hns : Txt.isspace (catAll (ws0 ++ [(f, v)])) = false) (hok : JoinOk "\n" (ls ++ [catAll (ws0 ++ [(f, v)])]) = true)
    (B : Bs w g) (F : Fr g L s.heap m) (N : News g L s.heap NB) (hL : L ∉ C.own) (hNB : ∀ p ∈ NB, p.1 ∉ C.own) (n0 : ∀ a ∈ C.own, g.get? a = none) (M : Fm g s.heap C (ws0 ++ [(f, v)], ls)) (hA : Le A (At 460 2600))
    (h : ∀ h' gs' tk t o1 o2, Fr g L h' m → News g L h' (((162 : Addr), o1) :: ((169 : Addr), o2) :: NB) → TabO o1 → TabO o2 → (AllBare s.gens → AllBare gs') → Q (.str (Txt.join "\n" (ls ++ [catAll (ws0 ++ [(f, v)])])) t) { s with heap := h', gens := gs', toks := tk }) :
    wpAny (model P0 w) A (call (.ref 64) [.ref C.p, .str "\n" tn]) Q E s := by
  refine at_le hA (str_fm_spec (f := f) (v := v) (ws0 := ws0) (ls := ls) C rfl FE o1 o2 o3 o4 o0 hsm hlz hv of ov hpos hns B F.keep n0 M hok fun h' gs' tk t k T1 T2 b => ?_)
  obtain ⟨oa, ea, ta⟩ := T1
  obtain ⟨ob, eb, tb⟩ := T2
  have m1 : (162 : Addr) ∈ C.own := by simp [FmC.own]
  have m2 : (169 : Addr) ∈ C.own := by simp [FmC.own]
  refine h h' gs' tk t oa ob (fr_butn F k hL n0) (fun p hp => ?_) ta tb b
  rcases List.mem_cons.mp hp with rfl | hp
  · exact ⟨ea, fun e => hL (e ▸ m1), n0 _ m1⟩
  · rcases List.mem_cons.mp hp with rfl | hp
    · exact ⟨eb, fun e => hL (e ▸ m2), n0 _ m2⟩
    · exact news_butn N k hNB p hp
theorem lexer_W {text : PySem.Str} {tt : Tok} {NB : List (Addr × Obj)} {Q : Value → Shared → Prop} (B : Bs w g) (F : Fr g L s.heap m) (N : News g L s.heap (((306 : Addr), tabObj #[]) :: NB)) (hNB : ∀ p ∈ NB, p.1 ≠ 306) (hz : text.cps.size ≤ sizeLine) (hA : Le A (At 500 3000))
    (h : ∀ h' tk C rest ps, rest.map Prod.fst = text.cps.toList → LxK w.params C → @LE.le Nat _ 343 C.c → Lx w.params h' C rest 1 → h'.get? C.pb = some (listO #[] 0) → (∀ a ∈ own9 C, g.get? a = none ∧ L ≠ a ∧ a ≠ 306 ∧ ∀ p ∈ NB, p.1 ≠ a) → Fr g L h' m → News g L h' (((306 : Addr), tabObj ps) :: NB) → Q (.ref C.l) { s with heap := h', toks := tk }) :
    wpAny (model P0 w) A (call (.ref 311) [.str text tt]) Q E s := by
  have N3 := N _ (.head _)
  refine at_le hA (lexer_spec (gdN B F N (all1 ⟨_, .head _⟩)) N3.1 hz fun h' tk C rest e k T KC h343 X hpb fr => ?_)
  obtain ⟨ps, hps⟩ := T
  have hL3 : L ≠ 306 := fun e => N3.2.1 e.symm
  refine h h' tk C rest ps e KC h343 X hpb (fun a ha => ⟨?_, ?_, ?_, ?_⟩) (fr_butn F k (by simpa using hL3) (fun a ha => by rw [List.mem_singleton.mp ha]; exact N3.2.2)) (fun p hp => ?_)
  · cases z : g.get? a with
    | none => rfl
    | some o => have := F.keep _ _ z; rw [fr a ha] at this; cases this
  · intro e
    obtain ⟨oL, es, ep, hL', r⟩ := F.ns
    rw [e, fr a ha] at hL'; cases hL'
  · intro e
    have := N3.1
    rw [← e, fr a ha] at this; cases this
  · intro p hp e
    have := (N p (.tail _ hp)).1
    rw [e, fr a ha] at this; cases this
  · rcases List.mem_cons.mp hp with rfl | hp
    · exact ⟨hps, N3.2⟩
    · exact news_butn (fun p hp => N p (.tail _ hp)) k (fun p hp => by simpa using hNB p hp) p hp
end
/-- the law's own names -/
noncomputable abbrev mw (vk : Option Value) (rest parts cells : Value) : PySem.Str → Option Value := fun y => if y = "k" then vk else if y = "rest" then some rest else if y = "parts" then some parts else if y = "cells" then some cells else none
theorem fr_mw {g h : Heap} {L : Addr} {m : PySem.Str → Option Value} {vk : Option Value} {rest parts cells : Value} (F : Fr g L h m) (h1 : m "k" = vk) (h2 : m "rest" = some rest) (h3 : m "parts" = some parts) (h4 : m "cells" = some cells) (h5 : ∀ y : PySem.Str, y ≠ "k" → y ≠ "rest" → y ≠ "parts" → y ≠ "cells" → m y = none) : Fr g L h (mw vk rest parts cells) := by
  have : m = mw vk rest parts cells := by
    funext y
    unfold mw
    by_cases a : y = "k"
    · rw [if_pos a, a, h1]
    rw [if_neg a]
    by_cases b : y = "rest"
    · rw [if_pos b, b, h2]
    rw [if_neg b]
    by_cases c : y = "parts"
    · rw [if_pos c, c, h3]
    rw [if_neg c]
    by_cases d : y = "cells"
    · rw [if_pos d, d, h4]
    rw [if_neg d, h5 y a b c d]
  exact this ▸ F
noncomputable abbrev tabN : List (Addr × Obj) := [((162 : Addr), tabObj #[]), ((169 : Addr), tabObj #[]), ((306 : Addr), tabObj #[])]
inductive LwInv (s0 : Shared) (g : Heap) (L : Addr) (cv : Value) (j : Nat) : Shared → Prop
  | mk (n : Nat) (PT : List Tr) (pv : Array Value) (pl : Addr) (kp : Nat) (rest : Int) (vk : Option Value) (R : List (Addr × Obj)) (h : Heap) (tk : Nat) (t1 : Tok) (oc : Obj) : PT.length < j → PT.length + n = 5 → 1 ≤ PT.length → 0 ≤ rest → rest ≤ 6000000 → RT R → ArrIs (PartOk R n) pv PT → Fr g L h (mw vk (.int rest t1) (.ref pl) cv) → News g L h ((pl, listO pv kp) :: (L + 1, oc) :: (tabN ++ R)) → LwInv s0 g L cv j ⟨h, s0.gens, s0.drawn, tk, s0.os⟩
theorem law_turn {s : Shared} {g h : Heap} {L : Addr} {m : PySem.Str → Option Value} {cv : Value} {j n tk kd : Nat} {PT : List Tr} {pv a1 a2 : Array Value} {R : List (Addr × Obj)} {D q : Addr} {x1 x2 x3 x4 x5 : Addr × Obj} {k i : Nat} {va vb : Value} {t t1 : Tok} {rest : Int} {oc : Obj}
    (hj : PT.length < j) (hn5 : PT.length + n = 5) (AP : ArrIs (PartOk R n) pv PT) (hR : RT R) (hk : k + 1 < PT.length) (hi : ((i : Nat) : Int) < 3) (ea : pv[(k : Int).toNat]? = some va) (eb : pv[((k : Int) + 1).toNat]? = some vb) (e1 : a1 = slicePick pv none (some (k : Int)) none) (e2 : a2 = slicePick pv (some ((k : Int) + 2)) none none)
    (r0 : 0 ≤ rest) (r1 : rest ≤ 6000000) (F : Fr g L h m) (h2 : m "rest" = some (.int rest t1)) (h3 : m "parts" = some (.ref D)) (h4 : m "cells" = some cv) (h5 : ∀ y : PySem.Str, y ≠ "k" → y ≠ "rest" → y ≠ "parts" → y ≠ "cells" → m y = none)
    (N : News g L h ((D, listO (a1 ++ #[.ref q] ++ a2) kd) :: x1 :: x2 :: x3 :: (q, tupO [.str (Txt.item "-/^" (i : Int)) t, va, vb]) :: x4 :: x5 :: (L + 1, oc) :: ((162 : Addr), tabObj #[]) :: ((169 : Addr), tabObj #[]) :: ((306 : Addr), tabObj #[]) :: R)) : Again (LwInv s g L cv) j ⟨h, s.gens, s.drawn, tk, s.os⟩ := by
  subst e1; subst e2
  rw [Int.toNat_natCast] at ea
  rw [show ((k : Int) + 1).toNat = k + 1 by omega] at eb
  obtain ⟨PT', e', AP'⟩ := parts_join (R := R) (R' := (q, tupO [.str (Txt.item "-/^" (i : Int)) t, va, vb]) :: R) AP hk (sgn_item (by omega) hi) ea eb (fun p hp => .tail _ hp) (.head _)
  refine ⟨PT.length, hj, .mk (n + 1) PT' _ D kd rest (m "k") _ h tk t1 oc (by omega) (by omega) (by omega) r0 r1 (fun p hp => ?_) AP' (fr_mw F rfl h2 h3 h4 h5) fun p hp => N p ?_⟩
  · rcases List.mem_cons.mp hp with rfl | hp
    · exact ⟨_, rfl⟩
    · exact hR p hp
  · exact sel_mem [0, 7, 8, 9, 10, 4] 11 hp

theorem law_start {s : Shared} {g h : Heap} {L : Addr} {cv : Value} {tk kp : Nat} {PT : List Tr} {pv : Array Value} {R : List (Addr × Obj)} {pl : Addr} {x1 x2 x3 x4 : Addr × Obj} {t1 : Tok} {rest : Int} {oc : Obj} (hPT : PT.length = 5) (r0 : 0 ≤ rest) (r1 : rest ≤ 6000000) (hR : RT R) (AP : ArrIs (PartOk R 0) pv PT)
    (F : Fr g L h (mw none (.int rest t1) (.ref pl) cv)) (N : News g L h ((pl, listO pv kp) :: x1 :: x2 :: x3 :: x4 :: (L + 1, oc) :: ((162 : Addr), tabObj #[]) :: ((169 : Addr), tabObj #[]) :: ((306 : Addr), tabObj #[]) :: R)) : LwInv s g L cv 6 ⟨h, s.gens, s.drawn, tk, s.os⟩ := by
  refine .mk 0 PT pv pl kp rest none R h tk t1 oc (by omega) (by omega) (by omega) r0 r1 hR AP F fun p hp => N p ?_
  exact sel_mem [0, 5, 6, 7, 8] 9 hp
noncomputable def LitO (o : Obj) (D : Addr) (k : Nat) : Prop := o.cls = .type "list_iterator" ∧ o.data = .fields #[.ref D, .int k 0]
section
variable {w : World} {s : Shared} {A : Around} {E : Value → Shared → Prop} {g : Heap} {L : Addr} {m : PySem.Str → Option Value} {news : List (Addr × Obj)} {D I : Addr} {wv : Array Value} {kw k : Nat} {oI : Obj}
theorem lit_iter {Q : Value → Shared → Prop} (F : Fr g L s.heap m) (N : News g L s.heap news) (hD : (D, listO wv kw) ∈ news)
    (h : ∀ I h' o, LitO o D 0 → Fr g L h' m → News g L h' ((I, o) :: news) → s.heap.get? I = none → Keeps s.heap h' → Q (.ref I) { s with heap := h' }) : wpAny (model P0 w) A (pyIter (.ref D)) Q E s :=
  wpAny_pyIter_list (PySem.IsL.isList (n := kw) (N _ hD).1) (h _ _ { cls := .type "list_iterator", data := .fields #[.ref D, .int 0 0] } ⟨rfl, rfl⟩ (F.push _) (News.push F N _) (none_past (Nat.le_refl _)) fun _ _ e => Heap.get?_push_of_some _ e)
theorem lit_next {x : Value} {Q : Option Value → Shared → Prop} (F : Fr g L s.heap m) (N : News g L s.heap news) (hI : (I, oI) ∈ news) (ho : LitO oI D k) (hD : (D, listO wv kw) ∈ news) (hx : wv[k]? = some x)
    (h : ∀ h' o1, LitO o1 D (k + 1) → Fr g L h' m → KeepsBut [I] s.heap h' → h'.get? I = some o1 → Q (some x) { s with heap := h' }) : wpAny (model P0 w) A (pyNext (.ref I)) Q E s := by
  refine wpAny_pyNext_list_item (it := I) (l := D) (i := k) ⟨oI, (N _ hI).1, ho.1, ho.2⟩ (PySem.IsL.isList (n := kw) (N _ hD).1) hx (fun h' hit hs => ?_)
  obtain ⟨o1, e1, c1, d1⟩ := hit
  have kk : KeepsBut [I] s.heap h' := fun b ob nb e => hs.extBut b ob (fun q => nb (by simp [q])) e
  exact h h' o1 ⟨c1, d1⟩ (fr_but F N hI kk) kk e1
theorem lit_end {Q : Option Value → Shared → Prop} (hh : A.handled = none) (F : Fr g L s.heap m) (N : News g L s.heap news) (hI : (I, oI) ∈ news) (ho : LitO oI D k) (hD : (D, listO wv kw) ∈ news) (hx : wv[k]? = none)
    (h : ∀ h', Fr g L h' m → KeepsBut [I] s.heap h' → Q none { s with heap := h' }) : wpAny (model P0 w) A (pyNext (.ref I)) Q E s := by
  refine wpAny_pyNext_list_end (it := I) (l := D) (i := k) hh ⟨oI, (N _ hI).1, ho.1, ho.2⟩ (PySem.IsL.isList (n := kw) (N _ hD).1) hx (fun h' hs => ?_)
  have kk : KeepsBut [I] s.heap h' := fun b ob nb e => hs b ob (fun q => nb (by simp [q])) e
  exact h h' (fr_but F N hI kk) kk
end
noncomputable abbrev mz (vw : Option Value) (folded words told width : Value) (m0 : PySem.Str → Option Value) : PySem.Str → Option Value := fun y => if y = "word" then vw else if y = "folded" then some folded else if y = "words" then some words else if y = "told" then some told else if y = "width" then some width else m0 y
theorem fr_mz {g h : Heap} {L : Addr} {m m0 : PySem.Str → Option Value} {vw : Option Value} {folded words told width : Value} (F : Fr g L h m) (h1 : m "word" = vw) (h2 : m "folded" = some folded) (h3 : m "words" = some words) (h4 : m "told" = some told) (h6 : m "width" = some width) (h5 : ∀ y : PySem.Str, y ≠ "word" → y ≠ "folded" → y ≠ "words" → y ≠ "told" → y ≠ "width" → m y = m0 y) : Fr g L h (mz vw folded words told width m0) := by
  have : m = mz vw folded words told width m0 := by
    funext y
    unfold mz
    by_cases a : y = "word"
    · rw [if_pos a, a, h1]
    rw [if_neg a]
    by_cases b : y = "folded"
    · rw [if_pos b, b, h2]
    rw [if_neg b]
    by_cases c : y = "words"
    · rw [if_pos c, c, h3]
    rw [if_neg c]
    by_cases d : y = "told"
    · rw [if_pos d, d, h4]
    rw [if_neg d]
    by_cases e : y = "width"
    · rw [if_pos e, e, h6]
    rw [if_neg e, h5 y a b c d e]
  exact this ▸ F
/-- what the formatter is made with -/
structure FmOk (g : Heap) (L : Addr) (C : FmC) (wd : Int) : Prop where
  FE : FmE C.eF wd C.l C.x
  o1 : @LT.lt Nat _ C.dp C.p
  o2 : @LT.lt Nat _ C.p C.l
  o3 : @LT.lt Nat _ C.l C.dx
  o4 : @LT.lt Nat _ C.dx C.x
  o0 : @LE.le Nat _ 343 C.dp
  hL : L ∉ C.own
  n0 : ∀ a ∈ C.own, g.get? a = none
/-- the folding of the words, behind k of them -/
inductive ChI (s0 : Shared) (g : Heap) (L : Addr) (C : FmC) (W : List PySem.Str) (wd : Int) (D I : Addr) (NB : List (Addr × Obj)) (words told width : Value) (m0 : PySem.Str → Option Value) (j : Nat) : Shared → Prop
  | mk (k : Nat) (vw : Option Value) (gs : Array GenState) (h : Heap) (tk : Nat) (oI : Obj) : W.length - k < j → k ≤ W.length → (AllBare s0.gens → AllBare gs) → LitO oI D k → Fm g h C ((W.take k).foldl (chunkS wd) ([], [])) → Fr g L h (mz vw (.ref C.p) words told width m0) → News g L h ((C.p, instObj 116 C.dp) :: (C.dp, dictOf C.eF C.nF) :: (I, oI) :: NB) → ChI s0 g L C W wd D I NB words told width m0 j ⟨h, gs, s0.drawn, tk, s0.os⟩
theorem take_fold {W : List PySem.Str} {wd : Int} {k : Nat} {x : PySem.Str} (hx : W[k]? = some x) : (W.take (k + 1)).foldl (chunkS wd) ([], []) = chunkS wd ((W.take k).foldl (chunkS wd) ([], [])) x := by
  rw [List.take_succ, hx, List.foldl_append]; rfl
/-- one turn's end -/
theorem chunk_turn {s0 : Shared} {g h : Heap} {L : Addr} {C : FmC} {W : List PySem.Str} {wd : Int} {D I : Addr} {NB : List (Addr × Obj)} {words told width vw : Value} {m m0 : PySem.Str → Option Value} {j k tk : Nat} {gs : Array GenState} {oI : Obj} {x : PySem.Str}
    (hj : W.length - k < j) (hk : k < W.length) (hx : W[k]? = some x) (b : AllBare s0.gens → AllBare gs) (ho : LitO oI D (k + 1)) (M : Fm g h C (chunkS wd ((W.take k).foldl (chunkS wd) ([], [])) x)) (F : Fr g L h m) (h1 : m "word" = some vw) (h2 : m "folded" = some (.ref C.p)) (h3 : m "words" = some words) (h4 : m "told" = some told) (h6 : m "width" = some width) (h5 : ∀ y : PySem.Str, y ≠ "word" → y ≠ "folded" → y ≠ "words" → y ≠ "told" → y ≠ "width" → m y = m0 y)
    (N : News g L h ((C.p, instObj 116 C.dp) :: (C.dp, dictOf C.eF C.nF) :: (I, oI) :: NB)) : Again (ChI s0 g L C W wd D I NB words told width m0) j ⟨h, gs, s0.drawn, tk, s0.os⟩ :=
  ⟨W.length - k, hj, .mk (k + 1) _ gs h tk oI (by omega) hk b ho (by rw [take_fold hx]; exact M) (fr_mz F h1 h2 h3 h4 h6 h5) N⟩
theorem fold_inv {W : List PySem.Str} {wd : Int} (k : Nat) (hk : k ≤ W.length) : FInv W k ((W.take k).foldl (chunkS wd) ([], [])) := by
  have := FInv.fold (W0 := W) (wd := wd) (W.take k) 0 ([], []) (FInv.nil W) fun x hx => List.mem_of_mem_take hx
  rw [List.length_take, Nat.min_eq_left hk, Nat.zero_add] at this
  exact this
theorem small_in {W : List PySem.Str} {wd : Int} {k : Nat} {x : PySem.Str} (hk : k ≤ W.length) (hw : ∀ x ∈ W, 1 ≤ x.length ∧ x.length ≤ 1000) (hl : W.length < 900) (hx : x ∈ W) :
    Small ((W.take k).foldl (chunkS wd) ([], [])).1 ∧ Small (((W.take k).foldl (chunkS wd) ([], [])).1 ++ [((" " : PySem.Str), x)]) ∧ ((W.take k).foldl (chunkS wd) ([], [])).2.length < 1000000 := by
  have F := fold_inv (wd := wd) k hk
  refine ⟨small_ws F.ws hw (by have := F.l1; omega), small_ws (W0 := W) (fun p hp => ?_) hw ?_, by have := F.l2; omega⟩
  · rcases List.mem_append.mp hp with hp | hp
    · exact F.ws p hp
    · rw [List.mem_singleton.mp hp]; exact ⟨rfl, hx⟩
  · rw [List.length_append, List.length_singleton]; have := F.l1; omega
theorem fm_nil {g h : Heap} {L p dp l x dx : Addr} {eF : List DictEntry} {nF de : Nat} {hs : Int} {tk0 t : Tok} {news : List (Addr × Obj)} (N : News g L h news) (h1 : (p, instObj 116 dp) ∈ news) (h2 : (dp, dictOf eF nF) ∈ news) (h3 : (l, listO #[] 0) ∈ news) (h4 : (x, accO dx #[] 0) ∈ news) (h5 : (dx, dictOf (es1 hs tk0 t) de) ∈ news) (h6 : ((162 : Addr), tabObj #[]) ∈ news) (h7 : ((169 : Addr), tabObj #[]) ∈ news) :
    Fm g h ⟨p, dp, l, x, dx, eF, nF, hs, tk0, de⟩ ([], []) :=
  ⟨(N _ h1).1, (N _ h2).1, ⟨#[], 0, (N _ h3).1, ⟨rfl, fun k y h => by simp at h⟩⟩, ⟨#[], 0, (N _ h4).1, ⟨rfl, fun k p h => by simp at h⟩, fun T h => by simp at h⟩, ⟨t, (N _ h5).1⟩, ⟨_, (N _ h6).1, #[], rfl, trivial⟩, ⟨_, (N _ h7).1, #[], rfl, trivial⟩⟩
/-- a told tuple is no code table -/
theorem tup_tab {g h : Heap} {L : Addr} {news : List (Addr × Obj)} {q P : Addr} {l : List Value} {ps : Array Value} (N : News g L h news) (h1 : (q, tupO l) ∈ news) (h2 : (P, tabObj ps) ∈ news) : @Ne Nat q P := by
  intro e
  have a := (N _ h1).1
  have b := (N _ h2).1
  dsimp only at a b
  rw [show q = P from e, b] at a
  cases a

theorem storeX_R {M : Model} {A : Around} {E : Value → Shared → Prop} {s : Shared} {g : Heap} {L a : Addr} {m : PySem.Str → Option Value} {news : List (Addr × Obj)} {cn : PySem.Str} {cs : Scope} {ccd : Value} {cl : List (PySem.Str × Addr)} {x : PySem.Str} {v : Value} {Q : Unit → Shared → Prop} (F : Fr g L s.heap m) (N : News g L s.heap news)
    (h : ∀ h', Fr g L h' (fun y => if y = x then some v else m y) → News g L h' news → KeepsBut [L] s.heap h' → Q () { s with heap := h', toks := s.toks + 1 })
    (hk : cs.kind = .function := by rfl) (hx : (envX cn cs L a ccd cl).kindOf x = some .local := by rfl) : wpAny M A (storeName (envX cn cs L a ccd cl) x v) Q E s :=
  wpAny_storeName_local hx F.ns (fun h' hn hs => h h' (F.set hn hs) (N.set hs) fun b o nb e => hs.extBut b o (fun q => nb (by simp [q])) e) (by show (cs.kind == .class || (cs.kind == .module && L != mainGlobals)) = false; rw [hk]; rfl)
theorem Fm.but {g h h' : Heap} {C : FmC} {st : FSt} {S : List Addr} (M : Fm g h C st) (k : KeepsBut S h h') (h1 : ∀ a ∈ C.own, a ∉ S) (h2 : ∀ T l, h.get? T = some (tupO l) → T ∉ S) : Fm g h' C st := by
  obtain ⟨hp, hdp, ⟨lines, nl, hl, HL⟩, ⟨items, n, hx, R, hT⟩, ⟨t0', hd⟩, ⟨oP, hP, hTP⟩, ⟨oS, hS, hTS⟩⟩ := M
  refine ⟨k _ _ (h1 _ (by simp [FmC.own])) hp, k _ _ (h1 _ (by simp [FmC.own])) hdp, ⟨lines, nl, k _ _ (h1 _ (by simp [FmC.own])) hl, HL⟩, ⟨items, n, k _ _ (h1 _ (by simp [FmC.own])) hx, ⟨R.size, fun i p e => ?_⟩, hT⟩, ⟨t0', k _ _ (h1 _ (by simp [FmC.own])) hd⟩, ⟨oP, k _ _ (h1 _ (by simp [FmC.own])) hP, hTP⟩, ⟨oS, k _ _ (h1 _ (by simp [FmC.own])) hS, hTS⟩⟩
  obtain ⟨T, t1, t2, a, b⟩ := R.at_ i p e
  exact ⟨T, t1, t2, a, k _ _ (h2 T _ b) b⟩
theorem Fm.keeps {g h h' : Heap} {C : FmC} {st : FSt} (M : Fm g h C st) (k : Keeps h h') : Fm g h' C st := M.but (S := []) (fun b o _ e => k b o e) (fun _ _ h => nomatch h) (fun _ _ _ h => nomatch h)
/-- neither the frame's own dict nor a list's iterator is a tuple -/
theorem not_tup {g h : Heap} {L T I : Addr} {news : List (Addr × Obj)} {oI : Obj} {D k : Nat} {l : List Value} (N : News g L h news) (hI : (I, oI) ∈ news) (ho : LitO oI D k) (hT : h.get? T = some (tupO l)) : T ∉ [I] := fun q => by
  have e := (N _ hI).1
  dsimp only at e
  rw [← List.mem_singleton.mp q, hT] at e
  have := Option.some.inj e
  have hc := ho.1
  rw [← this] at hc
  exact absurd hc (by intro z; injection z with z; exact absurd z (by decide))
theorem fm_ok {g h : Heap} {L p dp l x dx : Addr} {eF : List DictEntry} {hs wd : Int} {tk0 t : Tok} {news : List (Addr × Obj)} (N : News g L h news) (h1 : (p, instObj 116 dp) ∈ news) (h2 : (dp, dictOf eF 6) ∈ news) (h3 : (l, listO #[] 0) ∈ news) (h4 : (x, accO dx #[] 0) ∈ news) (h5 : (dx, dictOf (es1 hs tk0 t) 1) ∈ news) (h6 : ((162 : Addr), tabObj #[]) ∈ news) (h7 : ((169 : Addr), tabObj #[]) ∈ news)
    (FE : FmE eF wd l x) (o1 : @LT.lt Nat _ dp p) (o2 : @LT.lt Nat _ p l) (o3 : @LT.lt Nat _ l dx) (o4 : @LT.lt Nat _ dx x) (o0 : @LE.le Nat _ 343 dp) : FmOk g L ⟨p, dp, l, x, dx, eF, 6, hs, tk0, 1⟩ wd := by
  refine ⟨FE, o1, o2, o3, o4, o0, fun q => ?_, fun a q => ?_⟩
  · simp only [FmC.own, List.mem_cons, List.not_mem_nil, or_false] at q
    rcases q with e | e | e | e | e | e | e
    · exact (N _ h1).2.1 e.symm
    · exact (N _ h2).2.1 e.symm
    · exact (N _ h3).2.1 e.symm
    · exact (N _ h4).2.1 e.symm
    · exact (N _ h5).2.1 e.symm
    · exact (N _ h6).2.1 e.symm
    · exact (N _ h7).2.1 e.symm
  · simp only [FmC.own, List.mem_cons, List.not_mem_nil, or_false] at q
    rcases q with rfl | rfl | rfl | rfl | rfl | rfl | rfl
    · exact (N _ h1).2.2
    · exact (N _ h2).2.2
    · exact (N _ h3).2.2
    · exact (N _ h4).2.2
    · exact (N _ h5).2.2
    · exact (N _ h6).2.2
    · exact (N _ h7).2.2
/-- older objects are none of the formatter's own -/
theorem nb_own {C : FmC} {wd : Int} {g : Heap} {L q : Addr} (K : FmOk g L C wd) (hq : @LT.lt Nat _ q C.dp) (h1 : @Ne Nat q 162) (h2 : @Ne Nat q 169) : q ∉ C.own := fun e => by
  have a1 := K.o1
  have a2 := K.o2
  have a3 := K.o3
  have a4 := K.o4
  simp only [FmC.own, List.mem_cons, List.not_mem_nil, or_false] at e
  rcases e with e | e | e | e | e | e | e
  · rw [e] at hq; exact absurd (Nat.lt_trans hq a1) (Nat.lt_irrefl _)
  · rw [e] at hq; exact absurd hq (Nat.lt_irrefl _)
  · rw [e] at hq; exact absurd (Nat.lt_trans (Nat.lt_trans hq a1) a2) (Nat.lt_irrefl _)
  · rw [e] at hq; exact absurd (Nat.lt_trans (Nat.lt_trans (Nat.lt_trans (Nat.lt_trans hq a1) a2) a3) a4) (Nat.lt_irrefl _)
  · rw [e] at hq; exact absurd (Nat.lt_trans (Nat.lt_trans (Nat.lt_trans hq a1) a2) a3) (Nat.lt_irrefl _)
  · exact h1 e
  · exact h2 e

/-- a comprehension, by an invariant over its turns -/
theorem comp_inv {prog : Program} {w : World} {A : Around} {h₀ : Heap} {L : Addr} {m : PySem.Str → Option Value} {env : Env} {elt : Expr} {x : PySem.Str} {scope : Scope} {cl : List (PySem.Str × Addr)} {s : Shared} {S : List (Addr × Obj) → Prop} {P : Nat → Value → Prop} {Fin : List Value → List (Addr × Obj) → Prop}
    (J : Nat → List Value → List (Addr × Obj) → Prop) (n : Nat)
    (step : ∀ i ys news, i < n → J i ys news → ∀ v I oI C oC D m₂ h tk (E' : Value → Shared → Prop), P i v → LCg.NsObj oC m₂ → m₂ x = some v → Fr h₀ L h m → News h₀ L h ((I, oI) :: (C, oC) :: (D, LCg.lst ys) :: news) → LCg.Off3 I C D news → ((@Ne Nat I C) ∧ (@Ne Nat I D) ∧ (@Ne Nat C D)) →
      wpAny (model prog w) A (eval elt (compEnvC scope cl C env)) (LCg.CompEnd h₀ L m { s with heap := h, toks := tk } I oI C oC D (LCg.lst ys) S (fun y news' => J (i + 1) (ys ++ [y]) news')) E' { s with heap := h, toks := tk })
    (fin : ∀ ys news, J n ys news → Fin ys news) : ∀ k i ys news, k + i = n → J i ys news → LCg.CompRest prog w A h₀ L m env elt x scope cl s S P Fin k i ys news := by
  intro k
  induction k with
  | zero =>
    intro i ys news e hJ
    exact fin ys news (by rw [Nat.zero_add] at e; exact e ▸ hJ)
  | succ k ih =>
    intro i ys news e hJ v I oI C oC D m₂ h tk E' hv hC hx F N off ne
    refine wpAny_mono (step i ys news (by omega) hJ v I oI C oC D m₂ h tk E' hv hC hx F N off ne) (fun y s₂ hc => ?_) fun _ _ z => z
    obtain ⟨h', tk', news', e1, F', N', off', hS, r⟩ := hc
    exact ⟨h', tk', news', e1, F', N', off', hS, ih (i + 1) (ys ++ [y]) news' (by omega) r⟩
noncomputable def CellV (y : Value) : Prop := ∃ c t, y = .int c t ∧ 0 ≤ c ∧ c < 1000000
noncomputable def CellsJ (base : List (Addr × Obj)) (i : Nat) (ys : List Value) (news : List (Addr × Obj)) : Prop := news = base ∧ ys.length = i ∧ ∀ y ∈ ys, CellV y
noncomputable def PartsJ (base : List (Addr × Obj)) (i : Nat) (ys : List Value) (news : List (Addr × Obj)) : Prop := ∃ R PT, news = base ++ R ∧ RT R ∧ ys.length = i ∧ ArrIs (PartOk R 0) ys.toArray PT
theorem cells_ints : ∀ {ys : List Value}, (∀ y ∈ ys, CellV y) → ∃ ns, IntsAre ys ns ∧ 0 ≤ ns.sum ∧ ns.sum ≤ 1000000 * (ys.length : Int)
  | [], _ => ⟨[], .nil, Int.le_refl _, Int.le_refl _⟩
  | y :: r, h => by
    obtain ⟨c, t, rfl, h0, h1⟩ := h y (.head _)
    obtain ⟨ns, a, b, d⟩ := cells_ints (ys := r) fun z hz => h z (.tail _ hz)
    refine ⟨c :: ns, .cons c t a, by rw [List.sum_cons]; omega, ?_⟩
    rw [List.sum_cons, List.length_cons]; push_cast; omega
theorem cells_take {ys : List Value} {k : Nat} (h : ∀ y ∈ ys, CellV y) (hk : k ≤ ys.length) {va : Array Value} (e : va = slicePick ys.toArray none (some (k : Int)) none) : va.size = k ∧ ∀ (i : Nat) v, va[i]? = some v → CellV v := by
  rw [slicePick_upto ys.toArray k (by simpa using hk)] at e
  subst e
  refine ⟨by simp; omega, fun i v hv => h v ?_⟩
  have : v ∈ (ys.take k) := by
    rw [List.getElem?_toArray] at hv
    exact List.mem_of_getElem? hv
  exact List.mem_of_mem_take this
section
variable {w : World} {s : Shared} {A : Around} {E : Value → Shared → Prop} {g : Heap} {L : Addr} {m : PySem.Str → Option Value} {news : List (Addr × Obj)}
theorem sum_cells {D : Addr} {ys : List Value} {n : Nat} {Q : Value → Shared → Prop} (hh : A.handled = none) (F : Fr g L s.heap m) (N : News g L s.heap news) (hm : (D, listO ys.toArray n) ∈ news) (hy : ∀ y ∈ ys, CellV y) (hl : ys.length = 6)
    (h : ∀ h' tk t' S, 0 ≤ S → S ≤ 6000000 → Fr g L h' m → News g L h' news → Q (.int S t') { s with heap := h', toks := tk }) : wpAny (model P0 w) A (call (.builtin "sum") [.ref D]) Q E s := by
  obtain ⟨ns, a, b, d⟩ := cells_ints hy
  rw [hl] at d
  exact sumK hh F N (PySem.IsL.isList (n := n) (N _ hm).1) a fun h' tk t' F' N' => h h' tk t' _ b (by omega) F' N'
end

theorem fm_own_some {g h : Heap} {C : FmC} {st : FSt} (M : Fm g h C st) : ∀ a ∈ C.own, h.get? a ≠ none := by
  obtain ⟨hp, hdp, ⟨lines, nl, hl, HL⟩, ⟨items, n, hx, R, hT⟩, ⟨t0', hd⟩, ⟨oP, hP, hTP⟩, ⟨oS, hS, hTS⟩⟩ := M
  intro a q
  simp only [FmC.own, List.mem_cons, List.not_mem_nil, or_false] at q
  rcases q with rfl | rfl | rfl | rfl | rfl | rfl | rfl
  · rw [hp]; simp
  · rw [hdp]; simp
  · rw [hl]; simp
  · rw [hx]; simp
  · rw [hd]; simp
  · rw [hP]; simp
  · rw [hS]; simp

theorem allLt_get {d : Nat} : ∀ {l : List (Addr × Obj)}, AllLt d l → ∀ p ∈ l, @LT.lt Nat _ p.1 d
  | [], _, _, h => nomatch h
  | _ :: _, x, p, h => by
    rcases List.mem_cons.mp h with rfl | h
    · exact x.1
    · exact allLt_get x.2 p h
theorem rr_own {C : FmC} {wd : Int} {g h : Heap} {L : Addr} {news RR : List (Addr × Obj)} {a b : Array Value} (OK : FmOk g L C wd) (N : News g L h news) (hs : ∀ p ∈ RR, p ∈ news) (rt : RT RR) (h1 : ((162 : Addr), tabObj a) ∈ news) (h2 : ((169 : Addr), tabObj b) ∈ news) (hl : AllLt C.dp RR) : ∀ p ∈ RR, p.1 ∉ C.own := fun p hp => by
  obtain ⟨lp, hlp⟩ := rt p hp
  have hm := hs p hp
  have hlt := allLt_get hl p hp
  obtain ⟨q, o⟩ := p
  dsimp only at hlp
  subst hlp
  exact nb_own OK hlt (tup_tab N hm h1) (tup_tab N hm h2)

theorem nb3_own {C : FmC} {wd : Int} {g h : Heap} {L D tl : Addr} {news RR : List (Addr × Obj)} {wv tv : Array Value} {kt : Nat} (OK : FmOk g L C wd) (N : News g L h news) (h1 : (D, listO wv 0) ∈ news) (l1 : @LT.lt Nat _ D C.dp) (h2 : (tl, listO tv kt) ∈ news) (l2 : @LT.lt Nat _ tl C.dp) (hr : ∀ p ∈ RR, p.1 ∉ C.own)
    (h3 : ((162 : Addr), tabObj #[]) ∈ news) (h4 : ((169 : Addr), tabObj #[]) ∈ news) (l3 : @LT.lt Nat _ 306 C.dp) : ∀ (wv' : Array Value), ∀ p ∈ (D, listO wv' 0) :: (tl, listO tv kt) :: ((306 : Addr), tabObj #[]) :: RR, p.1 ∉ C.own := by
  have no : ∀ {q P : Addr} {v : Array Value} {n : Nat}, (q, listO v n) ∈ news → (P, tabObj #[]) ∈ news → @Ne Nat q P := fun a b e => by
    have x := (N _ a).1
    have y := (N _ b).1
    dsimp only at x y
    rw [show _ = _ from e, y] at x
    cases x
  intro wv' p hp
  rcases List.mem_cons.mp hp with rfl | hp
  · exact nb_own OK l1 (no h1 h3) (no h1 h4)
  · rcases List.mem_cons.mp hp with rfl | hp
    · exact nb_own OK l2 (no h2 h3) (no h2 h4)
    · rcases List.mem_cons.mp hp with rfl | hp
      · exact nb_own OK l3 (by decide) (by decide)
      · exact hr p hp

theorem nb_sel {g h : Heap} {L I p dp D tl : Addr} {oI : Obj} {e : List DictEntry} {wv tv : Array Value} {kt : Nat} {RR : List (Addr × Obj)} {y1 y2 y3 y4 y5 y6 y7 y8 y9 y10 y11 y12 : Addr × Obj} {t1 t2 : Tok} {W : List PySem.Str} (hA : ∀ t1 t2, ArrIs StrV (#[Value.str "(" t1] ++ wv ++ #[Value.str ")" t2]) W)
    (hne : ∀ q ∈ (y1 :: y2 :: y3 :: (p, instObj 116 dp) :: (dp, dictOf e 6) :: (D, listO (#[Value.str "(" t1] ++ wv ++ #[Value.str ")" t2]) 0) :: y4 :: y5 :: y6 :: y7 :: y8 :: (tl, listO tv kt) :: y9 :: y10 :: y11 :: y12 :: ((306 : Addr), tabObj #[]) :: RR), q.1 ≠ I)
    (N : News g L h ((I, oI) :: y1 :: y2 :: y3 :: (p, instObj 116 dp) :: (dp, dictOf e 6) :: (D, listO (#[Value.str "(" t1] ++ wv ++ #[Value.str ")" t2]) 0) :: y4 :: y5 :: y6 :: y7 :: y8 :: (tl, listO tv kt) :: y9 :: y10 :: y11 :: y12 :: ((306 : Addr), tabObj #[]) :: RR)) :
    ∃ wv', ArrIs StrV wv' W ∧ News g L h ((p, instObj 116 dp) :: (dp, dictOf e 6) :: (I, oI) :: (D, listO wv' 0) :: (tl, listO tv kt) :: ((306 : Addr), tabObj #[]) :: RR) ∧ ∀ q ∈ (p, instObj 116 dp) :: (dp, dictOf e 6) :: (D, listO wv' 0) :: (tl, listO tv kt) :: ((306 : Addr), tabObj #[]) :: RR, q.1 ≠ I := ⟨_, hA t1 t2, fun q hq => N q (sel_mem [4, 5, 0, 6, 12, 17] 18 hq), fun q hq => hne q (sel_mem [3, 4, 5, 11, 16] 17 hq)⟩
theorem it_step {g h h' : Heap} {L I : Addr} {oI o1 : Obj} {a b : Addr × Obj} {NB : List (Addr × Obj)} (N : News g L h (a :: b :: (I, oI) :: NB)) (k : KeepsBut [I] h h') (e : h'.get? I = some o1) (hne : ∀ q ∈ a :: b :: NB, q.1 ≠ I) : News g L h' (a :: b :: (I, o1) :: NB) := fun p hp => by
  simp only [List.mem_cons] at hp
  rcases hp with rfl | rfl | rfl | hp
  · exact ⟨k _ _ (fun q => hne p (.head _) (List.mem_singleton.mp q)) (N p (.head _)).1, (N p (.head _)).2⟩
  · exact ⟨k _ _ (fun q => hne p (.tail _ (.head _)) (List.mem_singleton.mp q)) (N p (.tail _ (.head _))).1, (N p (.tail _ (.head _))).2⟩
  · exact ⟨e, (N (I, oI) (.tail _ (.tail _ (.head _)))).2⟩
  · exact ⟨k _ _ (fun q => hne p (.tail _ (.tail _ hp)) (List.mem_singleton.mp q)) (N p (.tail _ (.tail _ (.tail _ hp)))).1, (N p (.tail _ (.tail _ (.tail _ hp)))).2⟩
theorem chunk_start {s : Shared} {g h : Heap} {L : Addr} {C : FmC} {W : List PySem.Str} {wd : Int} {D I : Addr} {NB : List (Addr × Obj)} {words told width : Value} {vw : Option Value} {m0 : PySem.Str → Option Value} {oI : Obj} {tk : Nat} (_ : FmOk g L C wd) (M : Fm g h C ([], [])) (ho : LitO oI D 0) (F : Fr g L h (mz vw (.ref C.p) words told width m0))
    (N : News g L h ((C.p, instObj 116 C.dp) :: (C.dp, dictOf C.eF C.nF) :: (I, oI) :: NB)) : ChI s g L C W wd D I NB words told width m0 (W.length + 1) ⟨h, s.gens, s.drawn, tk, s.os⟩ :=
  .mk 0 vw s.gens h tk oI (by omega) (by omega) (fun z => z) ho M F N

theorem frame_tup {g h : Heap} {L T : Addr} {m : PySem.Str → Option Value} {l : List Value} (F : Fr g L h m) (e : h.get? T = some (tupO l)) : T ∉ [L] := fun q => by
  obtain ⟨o, es, ep, ho, hd, _⟩ := F.ns
  rw [← List.mem_singleton.mp q, e] at ho
  have := Option.some.inj ho
  rw [← this] at hd
  cases hd

theorem it_drop {g h h' : Heap} {L I : Addr} {oI : Obj} {a b : Addr × Obj} {NB : List (Addr × Obj)} (N : News g L h (a :: b :: (I, oI) :: NB)) (k : KeepsBut [I] h h') (hne : ∀ q ∈ a :: b :: NB, q.1 ≠ I) : News g L h' (a :: b :: NB) := fun p hp => by
  have hm : p ∈ a :: b :: (I, oI) :: NB := by
    simp only [List.mem_cons] at hp ⊢
    rcases hp with z | z | z <;> simp [z]
  exact ⟨k _ _ (fun q => hne p hp (List.mem_singleton.mp q)) (N p hm).1, (N p hm).2⟩
theorem All2.length {R : PySem.Str → PySem.Str → Prop} {a b : List PySem.Str} (h : All2 R a b) : a.length = b.length := by
  induction h with
  | nil => rfl
  | cons _ _ ih => simp [ih]
/-- what stands at the folding's end -/
structure FoldEnd (W : List PySem.Str) (wd : Int) (ws0 : List (PySem.Str × PySem.Str)) (v : PySem.Str) (ls : List PySem.Str) : Prop where
  st : W.foldl (chunkS wd) ([], []) = (ws0 ++ [((" " : PySem.Str), v)], ls)
  sm : Small (ws0 ++ [((" " : PySem.Str), v)])
  hl : ls.length < 1000000
  hv : v ≠ ""
  of : PyData.strOk " " = true
  ov : PyData.strOk v = true
  pos : 0 < ((ws0 ++ [((" " : PySem.Str), v)]).map wlen).sum
  ns : Txt.isspace (catAll (ws0 ++ [((" " : PySem.Str), v)])) = false
  ok : JoinOk "\n" (ls ++ [catAll (ws0 ++ [((" " : PySem.Str), v)])]) = true
  tx : cd (Txt.join "\n" (ls ++ [catAll (ws0 ++ [((" " : PySem.Str), v)])])) = codesF wd W 0
theorem fold_end {W toks : List PySem.Str} {wd : Int} (A : All2 Wd W toks) (hl : W.length < 900) (hn : W ≠ []) : ∃ ws0 v ls, FoldEnd W wd ws0 v ls := by
  have hw : ∀ x ∈ W, 1 ≤ x.length ∧ x.length ≤ 1000 := fun x hx => by obtain ⟨y, z⟩ := A.left x hx; exact z.len
  have FI := FInv.fold (W0 := W) (wd := wd) W 0 ([], []) (FInv.nil W) fun _ h => h
  rw [Nat.zero_add] at FI
  have tx := fold_text (W := W) (wd := wd)
  have jo := join_ok (wd := wd) hw hl
  generalize hst : W.foldl (chunkS wd) ([], []) = st at FI tx jo
  obtain ⟨s1, s2⟩ := st
  have hne : s1 ≠ [] := FI.e2 (List.length_pos_iff.mpr hn)
  obtain ⟨ws0, ⟨f, v⟩, rfl⟩ : ∃ ws0 q, s1 = ws0 ++ [q] := ⟨s1.dropLast, s1.getLast hne, (List.dropLast_concat_getLast hne).symm⟩
  obtain ⟨hf, hv⟩ := FI.ws (f, v) (by simp)
  dsimp only at hf hv
  subst hf
  obtain ⟨y, hy⟩ := A.left v hv
  refine ⟨ws0, v, s2, hst, small_ws FI.ws hw (by have := FI.l1; dsimp only at this; omega), by have := FI.l2; dsimp only at this; omega, ?_, by decide +kernel, str_ok hy.low, sum_pos FI.ws hne, ?_, jo, tx⟩
  · intro e; have := hy.len.1; rw [e, e_len] at this; omega
  · obtain ⟨c, hc, hs⟩ := hy.ink
    unfold Txt.isspace
    rw [Bool.and_eq_false_iff]
    right
    rw [← Array.all_toList]
    refine List.all_eq_false.mpr ⟨c, ?_, by rw [hs]; decide⟩
    show c ∈ cd (catAll (ws0 ++ [((" " : PySem.Str), v)]))
    rw [catAll_add, cd_add, cd_add]
    exact List.mem_append_right _ (List.mem_append_right _ hc)
section
variable {w : World} {s : Shared} {A : Around} {E : Value → Shared → Prop} {g : Heap} {L : Addr} {m : PySem.Str → Option Value} {news : List (Addr × Obj)}
theorem law_read_W {C : LxC} {rest0 : List (Nat × Tok)} {n0 : Int} {tok : PySem.Str} {r1 : List Nat} {n1 : Int} {kk kp : Nat} {T' : List TE} {E' : List Int} {oS0 : Obj} {NB : List (Addr × Obj)} {Q : Value → Shared → Prop} (B : Bs w g) (F : Fr g L s.heap m) (N : News g L s.heap (((169 : Addr), oS0) :: NB)) (hTS0 : TabO oS0) (hNB : ∀ p ∈ NB, p.1 ≠ 169)
    (K : LxK w.params C) (X : Lx w.params s.heap C rest0 n0) (hpb : s.heap.get? C.pb = some (listO #[] kp)) (fr : ∀ a ∈ own9 C, g.get? a = none ∧ L ≠ a ∧ a ≠ 306 ∧ ∀ p ∈ NB, p.1 ≠ a) (hz : rest0.length ≤ sizeLine) (h0 : @LE.le Nat _ 343 C.c) (T0 : TokR (rest0.map Prod.fst) n0 tok r1 n1) (RR : LR kk tok r1 n1 [] [] [] [] T' E') (hA : Le A (At 460 2600))
    (h : ∀ h' gs tk q tl el q2 tv ev kt ke t2 t3 R o169, Fr g L h' m → News g L h' ((q, tupO [.ref tl, .ref el, .ref q2]) :: (tl, listO tv kt) :: (el, listO ev ke) :: (q2, tupO [.str "" t2, .str "" t3]) :: ((169 : Addr), o169) :: (NB ++ R)) → TabO o169 → ArrIs (TEv R) tv T' → ArrIs EndV ev E' → (AllBare s.gens → AllBare gs) → Q (.ref q) { s with heap := h', gens := gs, toks := tk }) :
    wpAny (model P0 w) A (call (.ref 337) [.ref C.l]) Q E s := by
  have N0 := N _ (.head _)
  have dl : C.dl ∈ own9 C := by simp
  have sg : C.sg ∈ own9 C := by simp
  have G : Gd w s.heap (169 :: own9 C) := Gd.of B F.keep fun a ha => by
    rcases List.mem_cons.mp ha with rfl | ha
    · exact N0.2.2
    · exact (fr a ha).1
  refine at_le hA (read_spec K X hpb N0.1 hTS0 G hz h0 T0 RR fun h' gs tk q tl el q2 tv ev kt ke t2 t3 R k T b P => ?_)
  obtain ⟨o169, e169, t169⟩ := T
  have hL : L ∉ [C.dl, C.sg, 169] := by
    simp only [List.mem_cons, List.not_mem_nil, or_false]
    rintro (e | e | e)
    · exact (fr _ dl).2.1 e
    · exact (fr _ sg).2.1 e
    · exact N0.2.1 e.symm
  have F' := fr_butn F k hL (fun a ha => by
    simp only [List.mem_cons, List.not_mem_nil, or_false] at ha
    rcases ha with rfl | rfl | rfl
    · exact (fr _ dl).1
    · exact (fr _ sg).1
    · exact N0.2.2)
  refine h h' gs tk q tl el q2 tv ev kt ke t2 t3 R o169 F' ?_ t169 P.T_ P.E_ b
  have NB' : News g L h' NB := news_butn (fun p hp => N p (.tail _ hp)) k (fun p hp => by
    simp only [List.mem_cons, List.not_mem_nil, or_false]
    rintro (e | e | e)
    · exact (fr _ dl).2.2.2 p hp e
    · exact (fr _ sg).2.2.2 p hp e
    · exact hNB p hp e)
  refine news_add F (news_add F (news_add F (news_add F (fun p hp => ?_) P.pn P.p_) P.en P.e_) P.tn P.t_) P.qn P.q_
  rcases List.mem_cons.mp hp with rfl | hp
  · exact ⟨e169, N0.2⟩
  · rcases List.mem_append.mp hp with hp | hp
    · exact NB' p hp
    · have z := P.R_ p hp
      exact news_add F (o := p.2) NB' z.2 z.1 p (.head _)
end

theorem list_tab {g h : Heap} {L q P : Addr} {news : List (Addr × Obj)} {v ps : Array Value} {n : Nat} (N : News g L h news) (a : (q, listO v n) ∈ news) (b : (P, tabObj ps) ∈ news) : @Ne Nat q P := fun e => by
  have x := (N _ a).1
  have y := (N _ b).1
  dsimp only at x y
  rw [show q = P from e, y] at x
  cases x
/-- what the lexer's call finds and leaves alone -/
theorem nb_306 {g h : Heap} {L D tl : Addr} {wv tv : Array Value} {kt : Nat} {oa ob : Obj} {RR : List (Addr × Obj)} (rt : RT RR) (N : News g L h (((162 : Addr), oa) :: ((169 : Addr), ob) :: (D, listO wv 0) :: (tl, listO tv kt) :: ((306 : Addr), tabObj #[]) :: RR)) :
    News g L h (((306 : Addr), tabObj #[]) :: ((169 : Addr), ob) :: ((162 : Addr), oa) :: (D, listO wv 0) :: (tl, listO tv kt) :: RR) ∧ ∀ p ∈ ((169 : Addr), ob) :: ((162 : Addr), oa) :: (D, listO wv 0) :: (tl, listO tv kt) :: RR, p.1 ≠ 306 := by
  have m306 : ((306 : Addr), tabObj #[]) ∈ ((162 : Addr), oa) :: ((169 : Addr), ob) :: (D, listO wv 0) :: (tl, listO tv kt) :: ((306 : Addr), tabObj #[]) :: RR := by k_mem
  refine ⟨fun p hp => N p ?_, fun p hp => ?_⟩
  · exact sel_mem [4, 1, 0, 2, 3] 5 hp
  · simp only [List.mem_cons] at hp
    rcases hp with rfl | rfl | rfl | rfl | hp
    · show (169 : Nat) ≠ 306; decide
    · show (162 : Nat) ≠ 306; decide
    · exact list_tab N (by k_mem) m306
    · exact list_tab N (by k_mem) m306
    · have hm : p ∈ ((162 : Addr), oa) :: ((169 : Addr), ob) :: (D, listO wv 0) :: (tl, listO tv kt) :: ((306 : Addr), tabObj #[]) :: RR := List.mem_append_right [_, _, _, _, _] hp
      obtain ⟨l, hl⟩ := rt p hp
      obtain ⟨q, o⟩ := p
      dsimp only at hl
      subst hl
      exact tup_tab N hm m306
/-- ... and the reading's -/
theorem nb_169 {g h : Heap} {L D tl : Addr} {wv tv ps : Array Value} {kt : Nat} {oa ob : Obj} {RR : List (Addr × Obj)} (rt : RT RR) (tb : TabO ob) (N : News g L h (((306 : Addr), tabObj ps) :: ((169 : Addr), ob) :: ((162 : Addr), oa) :: (D, listO wv 0) :: (tl, listO tv kt) :: RR)) :
    News g L h (((169 : Addr), ob) :: ((306 : Addr), tabObj ps) :: ((162 : Addr), oa) :: (D, listO wv 0) :: (tl, listO tv kt) :: RR) ∧ ∀ p ∈ ((306 : Addr), tabObj ps) :: ((162 : Addr), oa) :: (D, listO wv 0) :: (tl, listO tv kt) :: RR, p.1 ≠ 169 := by
  obtain ⟨pb, rfl, _⟩ := tb
  have m169 : ((169 : Addr), tabObj pb) ∈ ((306 : Addr), tabObj ps) :: ((169 : Addr), tabObj pb) :: ((162 : Addr), oa) :: (D, listO wv 0) :: (tl, listO tv kt) :: RR := .tail _ (.head _)
  refine ⟨fun p hp => N p ?_, fun p hp => ?_⟩
  · exact sel_mem [1, 0, 2, 3, 4] 5 hp
  · simp only [List.mem_cons] at hp
    rcases hp with rfl | rfl | rfl | rfl | hp
    · show (306 : Nat) ≠ 169; decide
    · show (162 : Nat) ≠ 169; decide
    · exact list_tab N (by k_mem) m169
    · exact list_tab N (by k_mem) m169
    · have hm : p ∈ ((306 : Addr), tabObj ps) :: ((169 : Addr), tabObj pb) :: ((162 : Addr), oa) :: (D, listO wv 0) :: (tl, listO tv kt) :: RR := List.mem_append_right [_, _, _, _, _] hp
      obtain ⟨l, hl⟩ := rt p hp
      obtain ⟨q, o⟩ := p
      dsimp only at hl
      subst hl
      exact tup_tab N hm m169
/-- both sides of the law's end -/
theorem law_reads {g h : Heap} {L q tl el q2 : Addr} {tv ev : Array Value} {kt ke : Nat} {t2 t3 : Tok} {R news : List (Addr × Obj)} {T : List TE} {Ev : List Int} (N : News g L h news) (h1 : (q, tupO [.ref tl, .ref el, .ref q2]) ∈ news) (h2 : (tl, listO tv kt) ∈ news) (h3 : (el, listO ev ke) ∈ news) (h4 : (q2, tupO [.str "" t2, .str "" t3]) ∈ news) (hR : ∀ p ∈ R, p ∈ news) (AT : ArrIs (TEv R) tv T) (AE : ArrIs EndV ev Ev) : ∃ as, Reads h (.ref q) (lawD T Ev) as := by
  have a1 : Reads _ _ _ _ := reads_list_at (xs := T.map TE.data) (N _ h2).1 rfl rfl (reads_arr AT.toL.1 fun k e hk => let ⟨v, a, b⟩ := AT.toL.2 k e hk; ⟨v, a, TEv.reads (fun p hp => (N p (hR p hp)).1) b⟩)
  have a2 : Reads _ _ _ _ := reads_list_at (xs := Ev.map PyData.int) (N _ h3).1 rfl rfl (reads_arr AE.toL.1 fun k e hk => let ⟨v, a, b⟩ := AE.toL.2 k e hk; ⟨v, a, by obtain ⟨u, rfl⟩ := b; exact .int _ _⟩)
  have a3 : Reads _ _ _ _ := reads_tuple_at (N _ h4).1 rfl rfl (ReadsAll.cons (as := []) (bs := []) (.str "" t2) (ReadsAll.cons (as := []) (bs := []) (.str "" t3) .nil))
  exact ⟨_, reads_tuple_at (N _ h1).1 rfl rfl (.cons a1 (.cons a2 (.cons a3 .nil)))⟩

theorem law_both {g h : Heap} {L D D1 el q tl' el' p' tl : Addr} {ev ev' tv tv' : Array Value} {ke ke' kt kt' : Nat} {t1 t2 t3 t4 : Tok} {y1 y2 y3 y4 : Addr × Obj} {R : List (Addr × Obj)} {T : List TE} {Ev : List Int}
    (N : News g L h ((D, tupO [.ref tl, .ref el, .ref D1]) :: (D1, tupO [.str "" t1, .str "" t2]) :: (el, listO ev ke) :: (q, tupO [.ref tl', .ref el', .ref p']) :: (tl', listO tv' kt') :: (el', listO ev' ke') :: (p', tupO [.str "" t3, .str "" t4]) :: y1 :: y2 :: y3 :: y4 :: (tl, listO tv kt) :: R))
    (a1 : ArrIs (TEv R) tv' T) (a2 : ArrIs EndV ev' Ev) (b1 : ArrIs (TEv R) tv T) (b2 : ArrIs EndV ev Ev) : (∃ as, Reads h (.ref q) (lawD T Ev) as) ∧ ∃ bs, Reads h (.ref D) (lawD T Ev) bs :=
  ⟨law_reads N (tl := tl') (el := el') (q2 := p') (tv := tv') (kt := kt') (ev := ev') (ke := ke') (t2 := t3) (t3 := t4) (R := R) (by k_mem) (by k_mem) (by k_mem) (by k_mem) (fun p hp => List.mem_append_right [_, _, _, _, _, _, _, _, _, _, _, _] hp) a1 a2,
   law_reads N (tl := tl) (el := el) (q2 := D1) (tv := tv) (kt := kt) (ev := ev) (ke := ke) (t2 := t1) (t3 := t2) (R := R) (by k_mem) (by k_mem) (by k_mem) (by k_mem) (fun p hp => List.mem_append_right [_, _, _, _, _, _, _, _, _, _, _, _] hp) b1 b2⟩
end
section
open PySem PySem.W PyProof.Rows PySem.Spec PySem.Calls Builtin Builtin.Str
theorem kw_F1_1 : True := by
  k_with_none
  k_with "execs cons" => ((with_reducible refine seq_cons fun zQ1 ztk zhQ1 => ?_); try dsimp only)
  trivial
theorem len3 : ("-/^" : PySem.Str).length = 3 := by decide +kernel
theorem arr5 {α : Type} {rel : Value → α → Prop} {v1 v2 v3 v4 v5 : Value} {e1 e2 e3 e4 e5 : α} (h1 : rel v1 e1) (h2 : rel v2 e2) (h3 : rel v3 e3) (h4 : rel v4 e4) (h5 : rel v5 e5) : ArrIs rel #[v1, v2, v3, v4, v5] [e1, e2, e3, e4, e5] :=
  ((((ArrIs.nil.push h1).push h2).push h3).push h4).push h5
theorem part_leaf {R : List (Addr × Obj)} {q : Addr} {t : Tok} {vv : Value} {x r : PySem.Str} {o : OV} (m : (q, tupO [.str x t, vv]) ∈ R) (ov : OVv vv o) (wd : Wd x r) (lf : LeafR r o) (ok : OVok o) : PartOk R 0 (.ref q) (.leaf x o) :=
  ⟨⟨q, t, vv, rfl, m, ov⟩, ⟨_, .leaf wd lf ok⟩, Nat.le_refl 0⟩
theorem gen_wd {g : Heap} {L : Addr} {C : FmC} {w0 : Int} {b : Prop} (H : FmOk g L C w0) (k : ∀ wd, wd = w0 → FmOk g L C wd → b) : b := k w0 rfl H
theorem exA2 {α : Type} {p q : α → Prop} {b : Prop} (h : ∃ x, p x ∧ q x) (k : ∀ x, p x → q x → b) : b := h.elim fun x z => k x z.1 z.2
theorem exA3 {α : Type} {p q r : α → Prop} {b : Prop} (h : ∃ x, p x ∧ q x ∧ r x) (k : ∀ x, p x → q x → r x → b) : b := h.elim fun x z => k x z.1 z.2.1 z.2.2
theorem codes_sz {a b : Nat} (h : a ≤ 1002 * b) (hb : b < 900) : a ≤ sizeLine := Nat.le_trans h (Nat.le_trans (Nat.mul_le_mul_left _ (Nat.le_of_lt hb)) (by decide))
theorem whileLw {w : World} {A : Around} {env : Env} {test : Expr} {body orelse : List Stmt} {R' : Result → Shared → Prop} {s0 s' : Shared} {g : Heap} {L : Addr} {cv : Value} (n : Nat) (h0 : LwInv s0 g L cv n s')
    (turn : ∀ j (n : Nat) (PT : List Tr) (pv : Array Value) (pl : Addr) (kp : Nat) (rest : Int) (vk : Option Value) (R : List (Addr × Obj)) (h : Heap) (tk : Nat) (t1 : Tok) (oc : Obj), PT.length < j → PT.length + n = 5 → 1 ≤ PT.length → 0 ≤ rest → rest ≤ 6000000 → RT R → ArrIs (PartOk R n) pv PT → Fr g L h (mw vk (.int rest t1) (.ref pl) cv) → News g L h ((pl, listO pv kp) :: (L + 1, oc) :: (tabN ++ R)) → WTurnAt w A env test body orelse R' (LwInv s0 g L cv) j ⟨h, s0.gens, s0.drawn, tk, s0.os⟩) : codeAny (model P0 w) A (.whileLoop test body orelse env) R' s' :=
  whileInv (LwInv s0 g L cv) (fun j s' hI => hI.casesOn (motive := fun s' _ => WTurnAt w A env test body orelse R' (LwInv s0 g L cv) j s') (turn j)) n h0
theorem forCh {w : World} {A : Around} {env : Env} {target : Expr} {body orelse : List Stmt} {R' : Result → Shared → Prop} {s0 s' : Shared} {g : Heap} {L : Addr} {C : FmC} {W : List PySem.Str} {wd : Int} {D I : Addr} {NB : List (Addr × Obj)} {words told width : Value} {m0 : PySem.Str → Option Value} (n : Nat) (h0 : ChI s0 g L C W wd D I NB words told width m0 n s')
    (turn : ∀ j (k : Nat) (vw : Option Value) (gs : Array GenState) (h : Heap) (tk : Nat) (oI : Obj), W.length - k < j → k ≤ W.length → (AllBare s0.gens → AllBare gs) → LitO oI D k → Fm g h C ((W.take k).foldl (chunkS wd) ([], [])) → Fr g L h (mz vw (.ref C.p) words told width m0) → News g L h ((C.p, instObj 116 C.dp) :: (C.dp, dictOf C.eF C.nF) :: (I, oI) :: NB) → TurnAt w A env target (.ref I) body orelse R' (ChI s0 g L C W wd D I NB words told width m0) j ⟨h, gs, s0.drawn, tk, s0.os⟩) (ht : ∀ v, letOwnedTupleGo target (.ref I) v = pure () := by intro _; rfl) : codeAny (model P0 w) A (.forLoop target (.ref I) body orelse env) R' s' :=
  forInvA (ChI s0 g L C W wd D I NB words told width m0) (fun j s' hI => hI.casesOn (motive := fun s' _ => TurnAt w A env target (.ref I) body orelse R' (ChI s0 g L C W wd D I NB words told width m0) j s') (turn j)) n h0 ht
theorem one_part {R : List (Addr × Obj)} {n : Nat} {pv : Array Value} {PT : List Tr} {G : Prop} (AP : ArrIs (PartOk R n) pv PT) (hp1 : 1 ≤ PT.length) (q1 : ¬ 1 < PT.length) (hn5 : PT.length + n = 5) (k : ∀ T1 q1 T1', pv[(0 : Int).toNat]? = some (.ref q1) → PartOk R n (.ref q1) T1 → TrG T1 T1' → T1.ht ≤ 4 → G) : G := by
  obtain ⟨T1, rfl⟩ : ∃ T1, PT = [T1] := List.length_eq_one_iff.mp (by omega)
  obtain ⟨v1, e1, P1⟩ := AP.at_ 0 T1 rfl
  obtain ⟨q1, rfl⟩ := P1.ht.ref
  obtain ⟨T1', TG⟩ := P1.good
  exact k T1 q1 T1' e1 P1 TG (Nat.le_trans P1.le (by simp only [List.length_cons, List.length_nil] at hn5; omega))
theorem arr_k {W : List PySem.Str} {wv : Array Value} {k : Nat} {G : Prop} (AW : ArrIs StrV wv W) (hk : k < W.length) (c : ∀ x xt, W[k]? = some x → wv[k]? = some (.str x xt) → x ∈ W → G) : G := by
  obtain ⟨x, hx⟩ : ∃ x, W[k]? = some x := ⟨_, List.getElem?_eq_getElem hk⟩
  obtain ⟨xv, hxv, xt, rfl⟩ := AW.at_ k x hx
  exact c x xt hx hxv (List.mem_of_getElem? hx)
theorem fold_endE {W toks : List PySem.Str} {wd : Int} {G : Prop} (A : All2 Wd W toks) (hl : W.length < 900) (hn : W ≠ []) (k : ∀ ws0 v ls, FoldEnd W wd ws0 v ls → G) : G := by
  obtain ⟨a, b, c, d⟩ := fold_end (wd := wd) A hl hn
  exact k a b c d
theorem text_lrE {wd : Int} {ws toks : List PySem.Str} {T' : List TE} {G : Prop} (A : All2 Wd ws toks) (R : Run toks [] [] [] T') (hz : (codesF wd ws 0).length ≤ sizeLine) (hl : ws.length < 900) (hne : ws ≠ []) (c : ∀ tok r1 n1 k, TokR (codesF wd ws 0) 1 tok r1 n1 → LR k tok r1 n1 [] [] [] [] T' (endsF wd ws "" 1 0 []) → G) : G := by
  obtain ⟨tok, r1, n1, k, a, b⟩ := text_lr A R hz hl hne
  exact c tok r1 n1 k a b
theorem eq_law2 {w : World} {A : Around} {s : Shared} {Q E : Value → Shared → Prop} {a b : Value} {T : List TE} {Ev : List Int} (H : (∃ as, Reads s.heap a (lawD T Ev) as) ∧ ∃ bs, Reads s.heap b (lawD T Ev) bs) (hT : ∀ e ∈ T, TEok e) (hu : A.units + 8 < cLine) (h : Q (.bool true) s) : wpAny (model P0 w) A (compareOp .Eq a b) Q E s := by
  obtain ⟨⟨as1, ra⟩, ⟨as2, rb⟩⟩ := H
  exact eq_law ra rb hT hu h
theorem own9_fr {g : Heap} {L : Addr} {C10 : LxC} {p0 y : Addr × Obj} {l : List (Addr × Obj)} (h0 : p0.1 = 306) (fr : ∀ a ∈ own9 C10, g.get? a = none ∧ L ≠ a ∧ a ≠ 306 ∧ ∀ p ∈ y :: l, p.1 ≠ a) : ∀ a ∈ own9 C10, g.get? a = none ∧ L ≠ a ∧ a ≠ 306 ∧ ∀ p ∈ p0 :: l, p.1 ≠ a := fun a ha => by
  obtain ⟨z1, z2, z3, z4⟩ := fr a ha
  refine ⟨z1, z2, z3, fun p hp => ?_⟩
  rcases List.mem_cons.mp hp with rfl | hp
  · exact fun e => z3 (e.symm.trans h0)
  · exact z4 p (.tail _ hp)
theorem comp_cells {prog : Program} {w : World} {A : Around} {h₀ : Heap} {L : Addr} {m : PySem.Str → Option Value} {env : Env} {elt : Expr} {x : PySem.Str} {scope : Scope} {cl : List (PySem.Str × Addr)} {s : Shared} {S : List (Addr × Obj) → Prop} {P : Nat → Value → Prop} {Fin : List Value → List (Addr × Obj) → Prop} {base : List (Addr × Obj)}
    (step : ∀ i ys, i < 6 → ys.length = i → (∀ y ∈ ys, CellV y) → ∀ v I oI C oC D m₂ h tk (E' : Value → Shared → Prop), P i v → LCg.NsObj oC m₂ → m₂ x = some v → Fr h₀ L h m → News h₀ L h ((I, oI) :: (C, oC) :: (D, LCg.lst ys) :: base) → LCg.Off3 I C D base → ((@Ne Nat I C) ∧ (@Ne Nat I D) ∧ (@Ne Nat C D)) →
      wpAny (model prog w) A (eval elt (compEnvC scope cl C env)) (LCg.CompEnd h₀ L m { s with heap := h, toks := tk } I oI C oC D (LCg.lst ys) S (fun y news' => CellsJ base (i + 1) (ys ++ [y]) news')) E' { s with heap := h, toks := tk })
    (fin : ∀ ys, ys.length = 6 → (∀ y ∈ ys, CellV y) → Fin ys base) : LCg.CompRest prog w A h₀ L m env elt x scope cl s S P Fin 6 0 [] base :=
  comp_inv (CellsJ base) 6 (fun i ys news hi hJ => by obtain ⟨e, hy, hc⟩ := hJ; subst e; exact step i ys hi hy hc) (fun ys news hJ => by obtain ⟨e, hy, hc⟩ := hJ; subst e; exact fin ys hy hc) 6 0 [] base rfl ⟨rfl, rfl, fun _ h => nomatch h⟩
theorem comp_parts {prog : Program} {w : World} {A : Around} {h₀ : Heap} {L : Addr} {m : PySem.Str → Option Value} {env : Env} {elt : Expr} {x : PySem.Str} {scope : Scope} {cl : List (PySem.Str × Addr)} {s : Shared} {S : List (Addr × Obj) → Prop} {P : Nat → Value → Prop} {Fin : List Value → List (Addr × Obj) → Prop} {base : List (Addr × Obj)} (k : Nat) (hk : k = 5)
    (step : ∀ i ys R PT, RT R → ys.length = i → ArrIs (PartOk R 0) ys.toArray PT → ∀ v I oI C oC D m₂ h tk (E' : Value → Shared → Prop), P i v → LCg.NsObj oC m₂ → m₂ x = some v → Fr h₀ L h m → News h₀ L h ((I, oI) :: (C, oC) :: (D, LCg.lst ys) :: (base ++ R)) → LCg.Off3 I C D (base ++ R) → ((@Ne Nat I C) ∧ (@Ne Nat I D) ∧ (@Ne Nat C D)) →
      wpAny (model prog w) A (eval elt (compEnvC scope cl C env)) (LCg.CompEnd h₀ L m { s with heap := h, toks := tk } I oI C oC D (LCg.lst ys) S (fun y news' => PartsJ base (i + 1) (ys ++ [y]) news')) E' { s with heap := h, toks := tk })
    (fin : ∀ ys R PT, RT R → ys.length = 5 → ArrIs (PartOk R 0) ys.toArray PT → Fin ys (base ++ R)) : LCg.CompRest prog w A h₀ L m env elt x scope cl s S P Fin k 0 [] base := by
  subst hk
  refine comp_inv (PartsJ base) 5 (fun i ys news hi hJ => ?_) (fun ys news hJ => ?_) 5 0 [] base rfl ⟨[], [], (List.append_nil _).symm, fun _ h => (nomatch h), rfl, ArrIs.nil⟩
  · obtain ⟨R, PT, e, hR, hy, AP⟩ := hJ
    subst e
    exact step i ys R PT hR hy AP
  · obtain ⟨R, PT, e, hR, hy, AP⟩ := hJ
    subst e
    exact fin ys R PT hR hy AP
theorem fillF1x (w : World) (h : Heap) (X : (Mine.hd.heap_39 w.params).In h) (e : PySem.Challenge.rw_wu0089_01.foot = PySem.Challenge.rw_wu0089_01.foot) : True := by
  revert X e; k_fill; intro _ _; trivial


theorem kw_F1_2 : True := by
  k_with "ktr_enter" => (refine' enter_fn ?q7a ?q7d ?q7e ?q7f ?q7g ?q7h ?q7i ?_ ?q7j ?q7k ?q7b ?q7c; (case q7g => assumption); (case q7a => assumption); (case q7e => k_is); (case q7f => k_is); (case q7d => decide); (case q7h => first | exact BindsTo.of_eq rfl | exact binds_K (Gd.here (by assumption)).X rfl (by k_is) rfl rfl rfl); (case q7j => decide); (case q7i => exact locs rfl); (case q7k => exact rfl); (case q7b => exact rfl); (case q7c => exact rfl); k_whole; rintro zg' zL' zh' zp' zl' zmean' zmg' zmb' zT' zX' zGN zF' zN' zl1 zK1 zhL'; (try dsimp only); (try k_fold))
  k_with "call ref" => (k_here; (with_reducible show wpAny _ _ (call (Value.ref _) _) _ _ _); refine stop ?_)
  k_with "pyIter ref" => (k_here; (with_reducible show wpAny _ _ (pyIter (Value.ref _)) _ _ _); refine stop ?_)
  k_with "getMethod ref" => (k_here; (with_reducible show wpAny _ _ (getMethod (Value.ref _) _ _) _ _ _); k_dflt (refine' method_inst ?q26a ?q26b ?q26c ?q26d ?q26e ?q26f ?q26g ?_; (case q26a => k_asm); (case q26b => k_asm); (case q26c => k_inst); (case q26d => k_is); (case q26e => k_is); (case q26f => k_is); (case q26g => with_reducible assumption); k_whole))
  k_with "compareOp Eq ref ref" => (k_here; (with_reducible show wpAny _ _ (compareOp _ (Value.ref _) (Value.ref _)) _ _ _); refine stop ?_)
  k_with "exec While" => (k_here; refine stop ?_)
  k_with "exec For Name Name cons nil" => (k_here; (with_reducible show wpAny _ _ (exec (Stmt.For _ _ _ _ _) _) _ _ _); refine stop ?_)
  k_with "call builtin:sum" => (k_here; (with_reducible show wpAny _ _ (call (Value.builtin "sum") [Value.ref _]) _ _ _); k_dflt (refine' sum_cells ?q67a ?q67b ?q67c ?q67d ?q67e ?q67f ?_; (case q67a => with_unfolding_all rfl); (case q67b => k_asm); (case q67c => k_asm); (case q67d => k_mem); (case q67e => assumption); (case q67f => assumption); k_whole); intro zh' ztk' zt' zS' zs0' zs1' zF' zN')
  k_with "call builtin:sum" => (k_here; (with_reducible show wpAny _ _ (call (Value.builtin "sum") [Value.ref _]) _ _ _); k_dflt (refine' sum_pick ?q68a ?q68b ?q68c ?q68d ?_; (case q68a => with_unfolding_all rfl); (case q68b => k_asm); (case q68c => k_asm); (case q68d => assumption); k_whole); intro zh' ztk' zt' zS' zF' zN')
  k_with "binaryOp Mod int int" => (k_here; (with_reducible show wpAny _ _ (binaryOp _ (Value.int _ _) (Value.int _ _)) _ _ _); k_dflt (refine' mod_nat ?q69a ?_; (case q69a => omega); k_whole); intro zk' zt' ztk' zk1')
  k_with "binaryOp Mod int int" => (k_here; (with_reducible show wpAny _ _ (binaryOp _ (Value.int _ _) (Value.int (10 ^ Int.toNat 6) _)) _ _ _); k_dflt (refine' mod_gen ?_; k_whole); intro zc' zt' ztk' zc0' zc1')
  k_with "binaryOp Mod int int" => (k_here; (with_reducible show wpAny _ _ (binaryOp _ (Value.int _ _) (Value.int (_ - 1) _)) _ _ _); k_dflt (refine' mod_at ?q71b ?q71a ?_; (case q71b => assumption); (case q71a => assumption); k_whole); intro zk' zt' ztk' zva' zvb' zk1' zea' zeb')
  k_with "binaryOp FloorDiv int int" => (k_here; (with_reducible show wpAny _ _ (binaryOp _ (Value.int _ _) (Value.int _ _)) _ _ _); k_dflt (refine' div_le ?q72a ?q72b ?q72c ?q72d ?_; (case q72a => assumption); (case q72b => assumption); (case q72c => omega); (case q72d => omega); k_whole); intro zc' zt' ztk' zc0' zc1')
  k_with "subscriptTail Constant BinOp str int" => (k_dflt (refine item_str (fitsSsize_of (N := 9223372036854775808) (by omega) (by omega) (Int.le_refl _)) (by rw [len3]; omega) (by rw [len3]; omega) ?_; intro _))
  k_with "subscriptTail" => (k_here; (with_reducible show wpAny _ _ (subscriptTail _ _ (Value.ref _) (Value.int _ _)) _ _ _); k_dflt (refine' sub_W ?q62a ?q62f ?q62b ?q62c ?q62d ?_ ?q62e; (case q62a => k_asm); (case q62f => k_mem); (case q62b => omega); (case q62c => omega); (case q62d => assumption); (case q62e => with_unfolding_all rfl); k_whole))
  k_with "subscriptTail Name Slice ref ref" => (k_here; (with_reducible show wpAny _ _ (subscriptTail _ (PySem.Expr.Slice _ _ none _) (Value.ref _) (Value.ref _)) _ _ _); k_dflt (refine' slice_gen ?q74a ?q74b ?q74e ?q74f ?q74g ?q74h ?_ ?q74c ?q74d; (case q74a => k_asm); (case q74b => k_asm); (case q74e => k_mem); (case q74f => first | exact .none | exact .int _ _); (case q74g => first | exact .none | exact .int _ _); (case q74h => assumption); (case q74c => with_unfolding_all rfl); (case q74d => intro _; with_unfolding_all rfl); k_whole); intro zD' zh' zva' zev' zsv' zF' zN' zl1)
  k_with "binaryOp Add ref ref" => (k_here; k_dflt (refine' lst_add ?q75a ?q75b ?q75c ?q75d ?q75e ?_; (case q75a => k_asm); (case q75b => k_asm); (case q75c => k_mem); (case q75d => k_mem); (case q75e => (first | assumption | ((simp only [Array.size_append, List.size_toArray, List.length_cons, List.length_nil]); omega))); k_whole); intro zD' zh' zF' zN' zl1; (try k_sweep))
  k_with "ite" => k_dflt (first | refine ite_pos (by assumption) ?_ | refine ite_neg (ne_true_of_eq_false (by assumption)) ?_ | (k_closed; refine ite_neg (by decide) ?_) | (k_closed; refine ite_pos (by decide) ?_) | refine stop ?_)
  k_with "CompSrc" => (refine stop ?_)
  trivial
section
variable {w : World} {s : Shared} {A : Around} {vs : List Value} {ns : List Int} {sc : Addr} {Q E : Value → Shared → Prop}
theorem law_spec (G : Gd w s.heap [162, 169, 306]) (h162 : s.heap.get? 162 = some (tabObj #[])) (h169 : s.heap.get? 169 = some (tabObj #[])) (h306 : s.heap.get? 306 = some (tabObj #[])) (hl : s.heap.IsList sc vs.toArray) (hI : IntsAre vs ns) (hz : ns.length ≤ 63) (hA : Le A (At 400 2000))
    (hQ : ∀ h' gs tk, KeepsBut [162, 169, 306] s.heap h' → Tb h' 162 → Tb h' 169 → (∃ ps, h'.get? 306 = some (tabObj ps)) → (AllBare s.gens → AllBare gs) → Q (.bool true) { s with heap := h', gens := gs, toks := tk }) :
    wpAny (model P0 w) A (call (.ref 342) [.ref sc]) Q E s := by
  refine at_le hA ?_
  have hn : ∀ q ∈ tabN, s.heap.get? q.1 = some q.2 := by
    refine mem_all3 ?_ ?_ ?_ <;> assumption
  refine wpAny_call ?_
  refine enter_cells (cs := fun L => [("seeds", L + 1 + 1), ("script", L + 1)]) (binds := [("script", .ref sc)]) (news := [((162 : Addr), tabObj #[]), ((169 : Addr), tabObj #[]), ((306 : Addr), tabObj #[])]) (fun L => rfl) G (by decide) (by k_is) (by k_is) hn (BindsTo.of_eq rfl) rfl (by decide +kernel) ?_ rfl rfl rfl
  rintro g L h1 tk cells p loose mean mg mb T X GN F N Y l1 lc K1 hL
  k_cells Y
  k_lt l1
  have hlg : g.IsList sc vs.toArray := by
    obtain ⟨o, e, hc, r⟩ := hl
    refine ⟨o, GN.kb _ (Keeps.refl _) sc o (fun q => ?_) e, hc, r⟩
    simp only [List.map_cons, List.map_nil, List.mem_cons, List.not_mem_nil, or_false] at q
    rcases q with rfl | rfl | rfl
    · rw [h162] at e; cases e; cases hc
    · rw [h169] at e; cases e; cases hc
    · rw [h306] at e; cases e; cases hc
  (try simp only [List.cons_append, List.nil_append] at N)
  (try dsimp only)
  k_steps
  unfold Stop
  rename Fr _ _ _ _ => F
  rename News _ _ _ _ => N
  refine LCg.CompSrc.range (n := 6) rfl F N (‹IsRange _ _ _ _ _ _ _ _›) (by first | decide | rfl) (by first | rfl | decide) (Nat.le_of_ble_eq_true rfl) (fun g1 => ?_)
  refine comp_cells ?_ ?_
  · clear F N
    intro i ys hi hy hc v I oI C oC D m2 h tk E' hv hC hx F N off ne
    obtain ⟨t9, rfl⟩ := hv
    simp only [LCg.Off3, and_true] at off
    have f0a := off.1.1
    have f0b := off.1.2.1
    have f0c := off.1.2.2
    have f1a := off.2.1.1
    have f1b := off.2.1.2.1
    have f1c := off.2.1.2.2
    have f2a := off.2.2.1.1
    have f2b := off.2.2.1.2.1
    have f2c := off.2.2.1.2.2
    have f3a := off.2.2.2.1.1
    have f3b := off.2.2.2.1.2.1
    have f3c := off.2.2.2.1.2.2
    have f4a := off.2.2.2.2.1.1
    have f4b := off.2.2.2.2.1.2.1
    have f4c := off.2.2.2.2.1.2.2
    have f5a := off.2.2.2.2.2.1
    have f5b := off.2.2.2.2.2.2.1
    have f5c := off.2.2.2.2.2.2.2
    clear off
    k_steps
    exact ⟨rfl, by rw [List.length_append, hy]; rfl, fun z hz => (List.mem_append.mp hz).elim (hc z) fun e => by rw [List.mem_singleton.mp e]; exact ⟨_, _, rfl, by assumption, by assumption⟩⟩
  clear F N
  intro ys hy hc
  have hyz : ys.toArray.size ≤ sizeLine := by rw [List.size_toArray, hy]; decide
  k_steps
  unfold Stop
  rename Fr _ _ _ _ => F
  rename News _ _ _ _ => N
  have hva := cells_take (k := 5) hc (by omega) (by assumption)
  refine LCg.CompSrc.ledger rfl F N (.head _) (by rw [hva.1]; decide) (fun g2 => ?_)
  refine comp_parts _ (by rw [hva.1]) ?_ ?_
  · clear F N
    intro i ys2 R PT hR hy2 AP v I oI C oC D m2 h tk E' hv hC hx F N off0 ne
    obtain ⟨c, tc, rfl, c0, c1⟩ := hva.2 i v hv
    have off := off0
    simp only [LCg.Off3, List.cons_append, List.nil_append] at off
    simp only [List.cons_append, List.nil_append] at N
    k_steps
    unfold Stop
    rename Fr _ _ _ _ => F
    rename News _ _ _ _ => N
    refine operand_W GN.bs F N c0 c1 (le_at rfl rfl rfl) (fun h3 q3 t3 v3 r3 o3 k3 F3 N3 OV3 Wd3 Lf3 Ok3 l3 => ?_)
    refine LCg.CompEnd.intro F3 N3 _ ?_ ?_ (Or.inr ⟨_, List.mem_append_left _ (.head _), rfl, _, rfl⟩) ⟨(q3, tupO [.str (wordOf c r3) t3, v3]) :: R, PT ++ [.leaf (wordOf c r3) o3], rfl, ?_, ?_, ?_⟩
    · exact fun p hp => sel_mem [1, 2, 3, 4, 5, 6, 7, 8, 9, 10, 11, 0] 12 hp
    · refine LCg.Off3.of fun p hp => ?_
      rcases List.mem_append.mp hp with hp | hp
      · exact LCg.Off3.mem off0 p (List.mem_append_left _ hp)
      · rcases List.mem_cons.mp hp with rfl | hp
        · exact ⟨fun z => l3 (I, oI) (by k_mem) z.symm, fun z => l3 (C, oC) (by k_mem) z.symm, fun z => l3 (D, LCg.lst ys2) (by k_mem) z.symm⟩
        · exact LCg.Off3.mem off0 p (List.mem_append_right _ hp)
    · intro p hp
      rcases List.mem_cons.mp hp with rfl | hp
      · exact ⟨_, rfl⟩
      · exact hR p hp
    · rw [List.length_append, hy2]; rfl
    · have := (AP.mono (PartOk.mono (R' := (q3, tupO [.str (wordOf c r3) t3, v3]) :: R) (fun p hp => .tail _ hp) (Nat.le_refl 0))).push (part_leaf (.head _) OV3 Wd3 Lf3 Ok3)
      rw [← List.push_toArray]
      exact this
  clear F N
  intro ys2 R PT hR hy2 AP
  unfold LCg.FinA
  intro D2 h2 tk2 F2 N2 o2
  simp only [List.cons_append, List.nil_append] at N2
  clear hva
  k_steps
  unfold Stop
  refine wpAny_While ?_
  rename Fr _ _ _ _ => F
  rename News _ _ _ _ => N
  have F3 := fr_mw (vk := none) F rfl rfl rfl rfl (fun y a b c d => by dsimp only; rw [if_neg b, if_neg c, if_neg d]; rfl)
  have hPT : PT.length = 5 := by have := AP.size; simpa [hy2] using this.symm
  refine whileLw 6 (law_start hPT (by assumption) (by assumption) hR AP F3 N) ?_
  · clear F N
    try clear F2
    intro j n PT pv pl kp rest vk R h tk t1 oc hj hn5 hp1 r0 r1 hR AP F N
    have hsz := AP.size
    have hLn : 100000 ≤ sizeLine := by decide
    have hz1 : pv.size ≤ sizeLine := by rw [hsz]; exact Nat.le_trans (by omega : PT.length ≤ 5) (by decide)
    simp only [tabN, List.cons_append, List.nil_append] at N
    by_cases q1 : 1 < PT.length
    · have c1 : decide ((PT.length : Int) > 1) = true := decide_eq_true (by omega)
      k_steps
      dsimp only
      rename Fr _ _ _ _ => F
      rename News _ _ _ _ => N
      exact law_turn hj hn5 AP hR (by assumption) (by assumption) (by assumption) (by assumption) (by assumption) (by assumption) (by assumption) (by assumption) F rfl rfl rfl (fun y a b c d => by simp [mw, a, b, c, d]) N
    · have c1 : decide ((PT.length : Int) > 1) = false := decide_eq_false (by omega)
      refine one_part AP hp1 q1 hn5 (fun T1 q1 T1' e1' P1 TG hht => ?_)
      k_steps
      unfold Stop
      rename Fr _ _ _ _ => F
      rename News _ _ _ _ => N
      refine tell_W (tell_spec w) hht TG.ok GN.bs F.keep (P1.ht.heap fun p hp => ⟨(N p (.tail _ (.tail _ (.tail _ (.tail _ (.tail _ hp)))))).1, (N p (.tail _ (.tail _ (.tail _ (.tail _ (.tail _ hp)))))).2.2⟩) (by decide +kernel) F N (le_at rfl rfl rfl) (fun h2 q2 wl2 tl2 wv2 tv2 kw2 kt2 R2 tk2 F2 N2 k2 rt2 rn2 aW2 aT2 => ?_)
      clear F N
      have hlw := (tell_len T1 "(").1
      have hlt2 : (2 : Nat) ^ T1.ht ≤ 16 := Nat.le_trans (Nat.pow_le_pow_right (by decide) hht) (by decide)
      have hl8 : (tell T1 "(").1.length < 800 := by omega
      clear hlw hlt2
      have hws : wv2.size ≤ 1000 := by rw [aW2.size]; exact Nat.le_of_lt (Nat.lt_trans hl8 (by decide))
      simp only [List.cons_append, List.append_assoc] at N2
      refine gen_eq (R ++ R2) (fun RR hRR => ?_)
      rw [← hRR] at N2
      have rtR : RT RR := fun p hp => by rw [hRR] at hp; exact (List.mem_append.mp hp).elim (hR p) (rt2 p)
      have aT3 : ArrIs (TEv RR) tv2 (tell T1 "(").2 := aT2.mono (TEv.mono fun p hp => by rw [hRR]; exact List.mem_append_right _ hp)
      clear hR rt2 rn2 aT2 AP hRR k2
      k_steps
      unfold Stop
      rename Fr _ _ _ _ => F
      rename News _ _ _ _ => N
      refine fmnew_W GN.bs F N (le_at rfl rfl rfl) (fun p3 dp3 l3 x3 dx3 e3 hs3 tk3 t3 h3 tk4 F3 N3 FE3 lo1 lo2 lo3 lo4 lo5 => ?_)
      have h343 := Nat.lt_of_lt_of_le (Heap.lt_size (X 342 _ rfl)) F.above
      k_lt lo1
      clear F N
      k_steps
      unfold Stop
      refine wpAny_For ?_
      k_steps
      unfold Stop
      rename Fr _ _ _ _ => F
      rename News _ _ _ _ => N
      refine gen_eq ([("(" : PySem.Str)] ++ (tell T1 "(").1 ++ [(")" : PySem.Str)]) (fun W hW => ?_)
      have A2 : All2 Wd W ([("(" : PySem.Str)] ++ (tell T1' "(").1 ++ [(")" : PySem.Str)]) := by rw [hW]; exact .app (.app (.one wd_lp) (TG.words _)) (.one wd_rp)
      have hwl : ∀ x ∈ W, 1 ≤ x.length ∧ x.length ≤ 1000 := fun x hx => by obtain ⟨y, z⟩ := A2.left x hx; exact z.len
      have hWl : W.length < 900 := by rw [hW]; simp only [List.length_append, List.length_cons, List.length_nil]; omega
      have hWn : W ≠ [] := by rw [hW]; simp
      have hA0 : ∀ t1 t2, ArrIs StrV (#[Value.str "(" t1] ++ wv2 ++ #[Value.str ")" t2]) W := fun t1 t2 => by rw [hW]; exact ((ArrIs.one ⟨_, rfl⟩).append aW2).append (ArrIs.one ⟨_, rfl⟩)
      have OK := fm_ok N (by k_mem) (by k_mem) (by k_mem) (by k_mem) (by k_mem) (by k_mem) (by k_mem) FE3 lo2 lo3 lo4 lo5 (by omega)
      have M0 := fm_nil N (p := p3) (dp := dp3) (l := l3) (x := x3) (dx := dx3) (by k_mem) (by k_mem) (by k_mem) (by k_mem) (by k_mem) (by k_mem) (by k_mem)
      have hrO := rr_own OK N (RR := RR) (fun p hp => sel_mem [] 17 hp) rtR (by k_mem) (by k_mem) lo1.2.2.2.2.2.2.2.2.2.2.2.2
      have hIo := fm_own_some M0
      refine gen_eq (⟨p3, dp3, l3, x3, dx3, e3, 6, hs3, tk3, 1⟩ : FmC) (fun C hC => ?_)
      rw [← hC] at OK M0 hrO hIo
      refine gen_wd OK (fun wd hwd OK => ?_)
      have hwdl : wd ≤ 1000 := by omega
      have eCp : C.p = p3 := by rw [hC]
      have eCd : C.dp = dp3 := by rw [hC]
      have hbO := nb3_own OK (wv := #[Value.str _ _] ++ wv2 ++ #[Value.str _ _]) (tl := tl2) (tv := tv2) (kt := kt2) N (by k_mem) (by rw [eCd]; omega) (by k_mem) (by rw [eCd]; omega) hrO (by k_mem) (by k_mem) (by rw [eCd]; omega)
      refine lit_iter F N (by k_mem) (fun I h5 oI ho5 F5 N5 nI kI => ?_)
      have M5 := M0.keeps kI
      have F6 := fr_mz (m0 := _) F5 rfl rfl rfl rfl rfl (fun _ _ _ _ _ _ => rfl)
      have hIn : I ∉ C.own := fun q => hIo I q nI
      refine exA3 (nb_sel hA0 (ne_new N nI) N5) (fun wv AWs N6 hIne => ?_)
      replace hbO := hbO wv
      have eCe : C.eF = e3 := by rw [hC]
      have eCn : C.nF = 6 := by rw [hC]
      rw [← eCp] at F6
      rw [← eCp, ← eCd, ← eCe, ← eCn] at N6 hIne
      clear F N M0 hIo F5 N5
      refine forCh (W.length + 1) (chunk_start OK M5 ho5 F6 N6) ?_
      clear F6 N6 M5
      obtain ⟨_, _, fe3, fe4, fe5, fe6, fe7⟩ := OK.FE
      intro j2 k vw gs h6 tk6 oI6 hj6 hk6 hb6 ho6 M6 F6 N6
      have hIC := (N6 (I, oI6) (.tail _ (.tail _ (.head _))))
      rcases Nat.lt_or_ge k W.length with hkl | hkl
      · refine arr_k AWs hkl (fun x xt hx hxv hxm => ?_)
        have sm := small_in (wd := wd) hk6 hwl hWl hxm
        refine lit_next F6 N6 (by k_mem) ho6 (by k_mem) hxv (fun h7 o7 ho7 F7 k7 e7 => ?_)
        have M7 := M6.but k7 (fun a ha q => hIn (List.mem_singleton.mp q ▸ ha)) (fun T l e => not_tup N6 (I := I) (by k_mem) ho6 e)
        have N7 := it_step N6 k7 e7 hIne
        clear F6 N6 M6
        refine wpAny_assign_Name ?_
        refine storeX_R F7 N7 (fun h8 F8 N8 k8 => ?_)
        have M8 := M7.but k8 (fun a ha q => OK.hL (List.mem_singleton.mp q ▸ ha)) (fun T l e => frame_tup F7 e)
        clear F7 N7 M7
        k_steps
        unfold Stop
        rename Fr _ _ _ _ => F
        rename News _ _ _ _ => N
        refine chunk_W OK.FE OK.o1 OK.o2 OK.o3 OK.o4 OK.o0 sm.1 sm.2.1 sm.2.2 GN.bs F N OK.hL (NB := (I, o7) :: _) (fun p hp => ?_) OK.n0 M8 (le_at rfl rfl rfl) (fun h9 gs9 tk9 F9 N9 M9 b9 => ?_)
        · rcases List.mem_cons.mp hp with rfl | hp
          · exact hIn
          · exact hbO p hp
        clear F N
        k_steps
        rename Fr _ _ _ _ => F
        rename News _ _ _ _ => N
        exact chunk_turn hj6 hkl hx (fun z => b9 (hb6 z)) ho7 M9 F rfl rfl rfl rfl rfl (fun y a b c d e => by simp [mz, a, b, c, d, e]) N
      · have hk0 : k = W.length := Nat.le_antisymm hk6 hkl
        rw [hk0, List.take_length] at M6
        rw [hk0] at ho6
        refine fold_endE (wd := wd) A2 hWl hWn (fun ws0 v0 ls0 FE0 => ?_)
        rw [FE0.st] at M6
        refine lit_end rfl F6 N6 (by k_mem) ho6 (by k_mem) (by rw [Array.getElem?_eq_none]; rw [AWs.size]; exact Nat.le_refl _) (fun h7 F7 k7 => ?_)
        have M7 := M6.but k7 (fun a ha q => hIn (List.mem_singleton.mp q ▸ ha)) (fun T l e => not_tup N6 (I := I) (by k_mem) ho6 e)
        have N7 := it_drop N6 k7 hIne
        clear F6 N6 M6
        k_steps
        unfold Stop
        rename Fr _ _ _ _ => F
        rename News _ _ _ _ => N
        refine str_fm_W OK.FE OK.o1 OK.o2 OK.o3 OK.o4 OK.o0 FE0.sm FE0.hl FE0.hv FE0.of FE0.ov FE0.pos FE0.ns FE0.ok GN.bs F (NB := _ :: _ :: _) (fun p hp => N p (.tail _ (.tail _ hp))) OK.hL hbO OK.n0 M7 (le_at rfl rfl rfl) (fun h8 gs8 tk8 t8 oa ob F8 N8 ta tb b8 => ?_)
        have hcd := FE0.tx
        generalize Txt.join "\n" (ls0 ++ [catAll (ws0 ++ [((" " : PySem.Str), v0)])]) = text at hcd ⊢
        clear F N M7
        refine anE (nb_306 rtR N8) (fun N9 ne9 => ?_)
        clear N8
        have hcw := codesF_len (wd := wd) W 0 hwl
        have hcs := codes_sz hcw hWl
        clear hcw
        have hct : text.cps.size ≤ sizeLine := by
          have : (cd text).length = text.cps.size := by simp
          rw [← this, hcd]; exact hcs
        have hlT : (tell T1' "(").1.length < 800 := by rw [← (TG.words "(").length]; exact hl8
        refine text_lrE (wd := wd) A2 (rd_whole TG.rd hlT) hcs hWl hWn (fun tok r1' n1' kk TK0 RR0 => ?_)
        rw [← TG.told "("] at RR0
        k_steps
        unfold Stop
        refine lexer_W GN.bs F8 N9 ne9 hct (le_at rfl rfl rfl) (fun h10 tk10 C10 rest10 ps10 er10 KC10 hc10 XL10 hpb10 fr10 F10 N10 => ?_)
        clear F8 N9
        refine anE (nb_169 rtR tb N10) (fun N11 ne11 => ?_)
        clear N10
        k_steps
        unfold Stop
        have fr11 := own9_fr (p0 := ((306 : Addr), tabObj ps10)) rfl fr10
        refine law_read_W GN.bs F10 N11 tb ne11 KC10 XL10 hpb10 fr11 (by have := congrArg List.length er10; rw [List.length_map] at this; rw [this]; simpa using hct) hc10 (by rw [er10.trans hcd]; exact TK0) RR0 (le_at rfl rfl rfl) (fun h12 gs12 tk12 q12 tl12 el12 p12 tv12 ev12 kt12 ke12 t12 t13 R12 o12 F12 N12 T12 AT12 AE12 b12 => ?_)
        clear F10 N11 fr10 fr11 ne11 ne9 XL10 hpb10
        refine gen_eq (RR ++ R12) (fun R3 hR3 => ?_)
        simp only [List.cons_append, ← hR3] at N12
        have aL : ArrIs (TEv R3) tv12 (tell T1 "(").2 := AT12.mono (TEv.mono fun p hp => by rw [hR3]; exact List.mem_append_right _ hp)
        have aR : ArrIs (TEv R3) tv2 (tell T1 "(").2 := aT3.mono (TEv.mono fun p hp => by rw [hR3]; exact List.mem_append_left _ hp)
        clear AT12 aT3
        k_steps
        unfold Stop
        rename Fr _ _ _ _ => F
        rename News _ _ _ _ => N
        refine ends_W GN.bs F N (by k_mem) AWs (Nat.lt_trans hWl (by decide)) hwl (by rw [← hwd]; exact hwdl) (le_at rfl rfl rfl) (fun h14 el14 ev14 ke14 tk14 F14 N14 ne14 AE14 => ?_)
        rw [← hwd] at AE14
        clear F N
        k_steps
        unfold Stop
        rename Fr _ _ _ _ => F
        rename News _ _ _ _ => N
        refine eq_law2 (law_both N aL AE12 aR AE14) (TG.low "(" lp_low) (Nat.le_of_ble_eq_true rfl) ?_
        k_steps
        rename Fr _ _ _ _ => F
        rename News _ _ _ _ => N
        refine hQ _ _ _ (gnd_but GN F.keep (fun p hp => ?_)) ⟨oa, (N ((162 : Addr), oa) (by k_mem)).1, ta⟩ ⟨o12, (N ((169 : Addr), o12) (by k_mem)).1, T12⟩ ⟨ps10, (N ((306 : Addr), tabObj ps10) (by k_mem)).1⟩ (fun z => b12 (b8 (hb6 z)))
        exact .inl (List.mem_map_of_mem (f := Prod.fst) hp)
end
end
section
open PySem PySem.W PyProof.Rows PySem.Spec PySem.Calls Builtin Builtin.Str
theorem in_filter {K : Frag} {h : Heap} {p : Addr → Bool} (X : K.In h) : Frag.In (K.filter fun q => p q.1) h := by
  intro a o e
  refine X a o ?_
  clear X
  induction K with
  | nil => exact e
  | cons q r ih =>
    obtain ⟨b, ob⟩ := q
    by_cases hp : p b = true
    · rw [List.filter_cons_of_pos (by exact hp)] at e
      by_cases hb : a = b
      · subst hb; simpa [List.lookup] using e
      · have hb' : (a == b) = false := beq_eq_false_iff_ne.mpr hb
        simp only [List.lookup, hb'] at e ⊢
        exact ih e
    · rw [List.filter_cons_of_neg (by exact hp)] at e
      have z := ih e
      by_cases hb : a = b
      · subst hb
        exfalso
        have : ∀ l : Frag, List.lookup a (l.filter fun q => p q.1) = some o → p a = true := by
          intro l
          induction l with
          | nil => intro h; cases h
          | cons c r ih =>
            intro h
            by_cases hc : p c.1 = true
            · rw [List.filter_cons_of_pos (by exact hc)] at h
              by_cases hd : a = c.1
              · rw [hd]; exact hc
              · have hd' : (a == c.1) = false := beq_eq_false_iff_ne.mpr hd
                obtain ⟨c1, c2⟩ := c
                simp only [List.lookup, hd'] at h
                exact ih h
            · rw [List.filter_cons_of_neg (by exact hc)] at h
              exact ih h
        exact hp (this r e)
      · have hb' : (a == b) = false := beq_eq_false_iff_ne.mpr hb
        simp only [List.lookup, hb']
        exact z
noncomputable abbrev tabs3 : List (Addr × Addr) := [(166, 162), (173, 169), (310, 306)]
theorem tabs_at {w : World} {h : Heap} (X : (Mine.hd.heap_39 w.params).In h) (hT : ∀ P ∈ [162, 169, 306], h.get? P = some (tabObj #[])) : TabsAt tabs3 h := by
  intro q hq
  simp only [tabs3, List.mem_cons, List.not_mem_nil, or_false] at hq
  rcases hq with rfl | rfl | rfl
  · exact ⟨codeHd_of_K X (by kernel_rfl), hT 162 (by simp)⟩
  · exact ⟨codeHd_of_K X (by kernel_rfl), hT 169 (by simp)⟩
  · exact ⟨codeHd_of_K X (by kernel_rfl), hT 306 (by simp)⟩
theorem gd_top {w : World} {h : Heap} {p : Program} {loose : List Str} {mean : ExcName → Option Value} {mg mb : Str → Option Value} (X : (Mine.hd.heap_39 w.params).In h) (T : Top p loose mean mg mb h) (hT : TabsAt tabs3 h) : Gd w h [162, 169, 306] := by
  have X' : (Mine.hd.heap_39 w.params).In (hideAll h [162, 169, 306]) := ghost_K hT X (by kernel_rfl)
  exact ⟨X', in_filter (p := fun a => !tabs.contains a) X', _, _, _, _, _, ghost_top hT T⟩
theorem post_law {cw : ClaimW} {cl : Str → Option Addr} {mean : ExcName → Option Value} {args : List WData} {s₁ : Shared} {h' : Heap} {gs : Array GenState} {tk : Nat} (hT : TabsAt tabs3 s₁.heap) (hpost : cw.post args (.bool true) args = true) (hr : ∀ x, cw.raises args x = false) (hg : s₁.gens = #[])
    (k : KeepsBut [162, 169, 306] s₁.heap h') (t1 : Tb h' 162) (t2 : Tb h' 169) (t3 : ∃ ps, h'.get? 306 = some (tabObj ps)) (b : AllBare s₁.gens → AllBare gs) : GoodWG cw cl mean args s₁ (.ok (.ret (.bool true))) { s₁ with heap := h', gens := gs, toks := tk } := by
  have gr : ∀ q ∈ tabs3, ∃ ps, h'.get? q.2 = some (tabObj ps) := by
    intro q hq
    simp only [tabs3, List.mem_cons, List.not_mem_nil, or_false] at hq
    rcases hq with rfl | rfl | rfl
    · obtain ⟨o, e, ps, rfl, _⟩ := t1; exact ⟨ps, e⟩
    · obtain ⟨o, e, ps, rfl, _⟩ := t2; exact ⟨ps, e⟩
    · exact t3
  have grown : ∀ a o, a ∈ [(162 : Addr), 169, 306] → s₁.heap.get? a = some o → isCodeTable s₁.heap a ∧ o = tabObj #[] ∧ ∃ ps, h'.get? a = some (tabObj ps) := fun a o ha e => by
    obtain ⟨q, hq, rfl⟩ : ∃ q ∈ tabs3, q.2 = a := List.mem_map.mp (show a ∈ tabs3.map Prod.snd from ha)
    have e2 := (hT q hq).2
    rw [e] at e2
    exact ⟨((hT q hq).1.tab (hT q hq).2).isCodeTable, Option.some.inj e2, gr q hq⟩
  refine ⟨.inl ⟨_, .bool true, [], rfl, hr, .bool true, hpost, fun _ => ⟨.nil, fun a ha => nomatch ha⟩⟩, ⟨fun a o e => ?_, fun a o e => ?_⟩, rfl, b (hg ▸ .of_eq rfl)⟩
  · by_cases ha : a ∈ [(162 : Addr), 169, 306]
    · obtain ⟨ht, rfl, ps, hP⟩ := grown a o ha e
      exact .inr (.inl ⟨ht, rfl, #[], ps, rfl, by rw [Array.empty_append]; exact hP⟩)
    · exact .inl (k a o ha e)
  · by_cases ha : a ∈ [(162 : Addr), 169, 306]
    · obtain ⟨_, _, ps, hP⟩ := grown a o ha e; exact ⟨_, hP⟩
    · exact ⟨o, k a o ha e⟩
theorem post_true (as ds : List WData) : PySem.Challenge.rw_wu0089_01.row.toRowW.claim.post as (WData.bool true) ds = true := by
  show (WShape.has [] (WData.bool true) WShape.bool && WTm.holds [] (.eq .res (.lit (.bool true))) { args := as, res := some (.bool true), after := ds }) = true
  refine Bool.and_eq_true_iff.mpr ⟨by decide +kernel, ?_⟩
  have e : PySem.W.same (WData.bool true) (WData.bool true) = true := by decide +kernel
  simp [WTm.holds, WTm.value, e]
theorem whole : PySem.Challenge.rw_wu0089_01.Holds := by
  w_on
  refine holds_law (by decide +kernel) fun said => ?_
  refine holds_open (q := view) (loose := loose) (Xt := fun s => xlAt view [] s && recOk PySem.Challenge.rw_wu0089_01.row.records s) (XP := XL view []) (Yf := Hook.obs hook) (Ya := Hook.val hook) (YP := Hook.says hook) (N := 4920) left (Hook.of hook) (Hook.keeps hook) (fun s e => xl_of s (Bool.and_eq_true_iff.mp e).1) XL.keeps (by rfl) (by rfl) (by rfl) (fun s e => recFacts_of (Bool.and_eq_true_iff.mp e).2) (by rfl) (by first | assumption | decide +kernel) (by decide +kernel) ⟨rfl, rfl, rfl, rfl, rfl, by decide +kernel⟩ ?hw ?hc
  case hw => w_witness2
  intro w s₀ s₁ mg mb G Y fa o pm cd doc dV kV ho hd hcd hD hmg hg args vals as hpre hlay hrd hwl hlo
  have X := km_in_of Y
  have hT8 := km_tabs_of Y
  have hT := tabs_at X hT8
  have Gg := gd_top X G.T hT
  have e1 : mg "law" = some (.ref 342) := mg_of X (Top.g G.T) (by kernel_rfl)
  have e2 : mg "law" = some (.ref fa) := hmg
  rw [e1] at e2
  cases e2
  clear hmg hD hd ho hcd
  wrow_args hpre hlay hrd hwl hlo
  refine law_spec (s := s₁) (A := callerA) Gg (hT8 162 (by simp)) (hT8 169 (by simp)) (hT8 306 (by simp)) (by assumption) (by assumption) (by have h := (‹¬ ((63 : Nat) : Int) < _›); omega) (le_at rfl rfl rfl) (fun h' gs tk k t1 t2 t3 b => ?_)
  exact post_law hT (post_true _ _) (fun _ => rfl) hg k t1 t2 t3 b

end
end Mine
theorem PySem.Challenge.cw_wu0089_01_holds : PySem.Challenge.rw_wu0089_01.Holds :=
  Mine.whole
