import PyProof.Rows.All
import Wide.All
import OpenK.AllK
import Wide.FinOn
import PySem.Challenge.RW_tc0024_02
set_option Elab.async false
set_option maxRecDepth 100000
set_option maxHeartbeats 0
set_option linter.all false
set_option compiler.extract_closed false
namespace Mine
open PySem PySem.W PySem.Calls PyProof.Rows
noncomputable abbrev pw : Program := PySem.Challenge.pw_tc0024_02
noncomputable def stAt (i : Nat) : Stmt := pw.main.body.getD i (.Pass default)
noncomputable def bodyOf : Stmt → List Stmt
  | .FunctionDef _ _ b _ _ _ _ _ _ _ => b
  | .ClassDef _ _ _ b _ _ _ _ _ _ _ => b
  | _ => []
noncomputable def parOf : Stmt → Arguments
  | .FunctionDef _ a _ _ _ _ _ _ _ _ => a
  | _ => ⟨[], [], none, [], [], none, []⟩
noncomputable def scOf : Stmt → Scope
  | .FunctionDef _ _ _ _ _ _ s _ _ _ => s
  | _ => default
noncomputable def methAt (i j : Nat) : Stmt := (bodyOf (stAt i)).getD j (.Pass default)
noncomputable abbrev a_quotedata : Addr := 55
noncomputable def body_quotedata : List Stmt := (bodyOf (stAt 6))
noncomputable def fd_quotedata : FuncData := { name := (Str.ofString "quotedata"), qualname := (Str.ofString "quotedata"), params := parOf (stAt 6), body := .stmts body_quotedata, scope := scOf (stAt 6), globals := 3, closure := [], defaults := .none, kwdefaults := .none, doc := .none, pyModule := .str (Str.ofString "cpy313.smtplib") 289, annotations := none, code := .ref 54, closureTuple := .none, builtins := 0 }
noncomputable abbrev a_VF_dinit : Addr := 69
noncomputable def body_VF_dinit : List Stmt := (bodyOf (methAt 10 0))
noncomputable def fd_VF_dinit : FuncData := { name := (Str.ofString "__init__"), qualname := (Str.ofString "_ValueFormatter.__init__"), params := parOf (methAt 10 0), body := .stmts body_VF_dinit, scope := scOf (methAt 10 0), globals := 3, closure := [], defaults := .none, kwdefaults := .none, doc := .none, pyModule := .str (Str.ofString "cpy313.email.header") 358, annotations := none, code := .ref 68, closureTuple := .none, builtins := 0 }
noncomputable abbrev a_VF_str : Addr := 76
noncomputable def body_VF_str : List Stmt := (bodyOf (methAt 10 1))
noncomputable def fd_VF_str : FuncData := { name := (Str.ofString "_str"), qualname := (Str.ofString "_ValueFormatter._str"), params := parOf (methAt 10 1), body := .stmts body_VF_str, scope := scOf (methAt 10 1), globals := 3, closure := [], defaults := .none, kwdefaults := .none, doc := .none, pyModule := .str (Str.ofString "cpy313.email.header") 358, annotations := none, code := .ref 75, closureTuple := .none, builtins := 0 }
noncomputable abbrev a_VF_dstr : Addr := 83
noncomputable def body_VF_dstr : List Stmt := (bodyOf (methAt 10 2))
noncomputable def fd_VF_dstr : FuncData := { name := (Str.ofString "__str__"), qualname := (Str.ofString "_ValueFormatter.__str__"), params := parOf (methAt 10 2), body := .stmts body_VF_dstr, scope := scOf (methAt 10 2), globals := 3, closure := [], defaults := .none, kwdefaults := .none, doc := .none, pyModule := .str (Str.ofString "cpy313.email.header") 358, annotations := none, code := .ref 82, closureTuple := .none, builtins := 0 }
noncomputable abbrev a_VF_newline : Addr := 90
noncomputable def body_VF_newline : List Stmt := (bodyOf (methAt 10 3))
noncomputable def fd_VF_newline : FuncData := { name := (Str.ofString "newline"), qualname := (Str.ofString "_ValueFormatter.newline"), params := parOf (methAt 10 3), body := .stmts body_VF_newline, scope := scOf (methAt 10 3), globals := 3, closure := [], defaults := .none, kwdefaults := .none, doc := .none, pyModule := .str (Str.ofString "cpy313.email.header") 358, annotations := none, code := .ref 89, closureTuple := .none, builtins := 0 }
noncomputable abbrev a_VF_append_chunk : Addr := 125
noncomputable def body_VF_append_chunk : List Stmt := (bodyOf (methAt 10 8))
noncomputable def fd_VF_append_chunk : FuncData := { name := (Str.ofString "_append_chunk"), qualname := (Str.ofString "_ValueFormatter._append_chunk"), params := parOf (methAt 10 8), body := .stmts body_VF_append_chunk, scope := scOf (methAt 10 8), globals := 3, closure := [], defaults := .none, kwdefaults := .none, doc := .none, pyModule := .str (Str.ofString "cpy313.email.header") 358, annotations := none, code := .ref 124, closureTuple := .none, builtins := 0 }
noncomputable abbrev a_VF : Addr := 128
noncomputable abbrev a_VF_ns : Addr := 127
noncomputable abbrev a_Acc_dinit : Addr := 149
noncomputable def body_Acc_dinit : List Stmt := (bodyOf (methAt 11 0))
noncomputable def fd_Acc_dinit : FuncData := { name := (Str.ofString "__init__"), qualname := (Str.ofString "_Accumulator.__init__"), params := parOf (methAt 11 0), body := .stmts body_Acc_dinit, scope := scOf (methAt 11 0), globals := 3, closure := [((Str.ofString "__class__"), 136)], defaults := .ref 141, kwdefaults := .none, doc := .none, pyModule := .str (Str.ofString "cpy313.email.header") 358, annotations := none, code := .ref 148, closureTuple := .ref 142, builtins := 0 }
noncomputable abbrev a_Acc_push : Addr := 156
noncomputable def body_Acc_push : List Stmt := (bodyOf (methAt 11 1))
noncomputable def fd_Acc_push : FuncData := { name := (Str.ofString "push"), qualname := (Str.ofString "_Accumulator.push"), params := parOf (methAt 11 1), body := .stmts body_Acc_push, scope := scOf (methAt 11 1), globals := 3, closure := [], defaults := .none, kwdefaults := .none, doc := .none, pyModule := .str (Str.ofString "cpy313.email.header") 358, annotations := none, code := .ref 155, closureTuple := .none, builtins := 0 }
noncomputable abbrev a_Acc_pop_from : Addr := 164
noncomputable def body_Acc_pop_from : List Stmt := (bodyOf (methAt 11 2))
noncomputable def fd_Acc_pop_from : FuncData := { name := (Str.ofString "pop_from"), qualname := (Str.ofString "_Accumulator.pop_from"), params := parOf (methAt 11 2), body := .stmts body_Acc_pop_from, scope := scOf (methAt 11 2), globals := 3, closure := [], defaults := .ref 157, kwdefaults := .none, doc := .none, pyModule := .str (Str.ofString "cpy313.email.header") 358, annotations := none, code := .ref 163, closureTuple := .none, builtins := 0 }
noncomputable abbrev a_Acc_pop : Addr := 172
noncomputable def body_Acc_pop : List Stmt := (bodyOf (methAt 11 3))
noncomputable def fd_Acc_pop : FuncData := { name := (Str.ofString "pop"), qualname := (Str.ofString "_Accumulator.pop"), params := parOf (methAt 11 3), body := .stmts body_Acc_pop, scope := scOf (methAt 11 3), globals := 3, closure := [((Str.ofString "__class__"), 136)], defaults := .none, kwdefaults := .none, doc := .none, pyModule := .str (Str.ofString "cpy313.email.header") 358, annotations := none, code := .ref 171, closureTuple := .ref 165, builtins := 0 }
noncomputable abbrev a_Acc_dlen : Addr := 179
noncomputable def body_Acc_dlen : List Stmt := (bodyOf (methAt 11 4))
noncomputable def fd_Acc_dlen : FuncData := { name := (Str.ofString "__len__"), qualname := (Str.ofString "_Accumulator.__len__"), params := parOf (methAt 11 4), body := .stmts body_Acc_dlen, scope := scOf (methAt 11 4), globals := 3, closure := [], defaults := .none, kwdefaults := .none, doc := .none, pyModule := .str (Str.ofString "cpy313.email.header") 358, annotations := none, code := .ref 178, closureTuple := .none, builtins := 0 }
noncomputable abbrev a_Acc_dstr : Addr := 186
noncomputable def body_Acc_dstr : List Stmt := (bodyOf (methAt 11 5))
noncomputable def fd_Acc_dstr : FuncData := { name := (Str.ofString "__str__"), qualname := (Str.ofString "_Accumulator.__str__"), params := parOf (methAt 11 5), body := .stmts body_Acc_dstr, scope := scOf (methAt 11 5), globals := 3, closure := [], defaults := .none, kwdefaults := .none, doc := .none, pyModule := .str (Str.ofString "cpy313.email.header") 358, annotations := none, code := .ref 185, closureTuple := .none, builtins := 0 }
noncomputable abbrev a_Acc_reset : Addr := 194
noncomputable def body_Acc_reset : List Stmt := (bodyOf (methAt 11 6))
noncomputable def fd_Acc_reset : FuncData := { name := (Str.ofString "reset"), qualname := (Str.ofString "_Accumulator.reset"), params := parOf (methAt 11 6), body := .stmts body_Acc_reset, scope := scOf (methAt 11 6), globals := 3, closure := [], defaults := .ref 187, kwdefaults := .none, doc := .none, pyModule := .str (Str.ofString "cpy313.email.header") 358, annotations := none, code := .ref 193, closureTuple := .none, builtins := 0 }
noncomputable abbrev a_Acc_is_onlyws : Addr := 201
noncomputable def body_Acc_is_onlyws : List Stmt := (bodyOf (methAt 11 7))
noncomputable def fd_Acc_is_onlyws : FuncData := { name := (Str.ofString "is_onlyws"), qualname := (Str.ofString "_Accumulator.is_onlyws"), params := parOf (methAt 11 7), body := .stmts body_Acc_is_onlyws, scope := scOf (methAt 11 7), globals := 3, closure := [], defaults := .none, kwdefaults := .none, doc := .none, pyModule := .str (Str.ofString "cpy313.email.header") 358, annotations := none, code := .ref 200, closureTuple := .none, builtins := 0 }
noncomputable abbrev a_Acc_part_count : Addr := 209
noncomputable def body_Acc_part_count : List Stmt := (bodyOf (methAt 11 8))
noncomputable def fd_Acc_part_count : FuncData := { name := (Str.ofString "part_count"), qualname := (Str.ofString "_Accumulator.part_count"), params := parOf (methAt 11 8), body := .stmts body_Acc_part_count, scope := scOf (methAt 11 8), globals := 3, closure := [((Str.ofString "__class__"), 136)], defaults := .none, kwdefaults := .none, doc := .none, pyModule := .str (Str.ofString "cpy313.email.header") 358, annotations := none, code := .ref 208, closureTuple := .ref 202, builtins := 0 }
noncomputable abbrev a_Acc : Addr := 212
noncomputable abbrev a_Acc_ns : Addr := 211
noncomputable abbrev a_iter_escaped_chars : Addr := 223
noncomputable def body_iter_escaped_chars : List Stmt := (bodyOf (stAt 13))
noncomputable def fd_iter_escaped_chars : FuncData := { name := (Str.ofString "_iter_escaped_chars"), qualname := (Str.ofString "_iter_escaped_chars"), params := parOf (stAt 13), body := .stmts body_iter_escaped_chars, scope := scOf (stAt 13), globals := 3, closure := [], defaults := .none, kwdefaults := .none, doc := .none, pyModule := .str (Str.ofString "cpy313.email.utils") 568, annotations := none, code := .ref 222, closureTuple := .none, builtins := 0 }
noncomputable abbrev a_strip_quoted_realnames : Addr := 230
noncomputable def body_strip_quoted_realnames : List Stmt := (bodyOf (stAt 14))
noncomputable def fd_strip_quoted_realnames : FuncData := { name := (Str.ofString "_strip_quoted_realnames"), qualname := (Str.ofString "_strip_quoted_realnames"), params := parOf (stAt 14), body := .stmts body_strip_quoted_realnames, scope := scOf (stAt 14), globals := 3, closure := [], defaults := .none, kwdefaults := .none, doc := .none, pyModule := .str (Str.ofString "cpy313.email.utils") 568, annotations := none, code := .ref 229, closureTuple := .none, builtins := 0 }
noncomputable abbrev a_check_parenthesis : Addr := 237
noncomputable def body_check_parenthesis : List Stmt := (bodyOf (stAt 15))
noncomputable def fd_check_parenthesis : FuncData := { name := (Str.ofString "_check_parenthesis"), qualname := (Str.ofString "_check_parenthesis"), params := parOf (stAt 15), body := .stmts body_check_parenthesis, scope := scOf (stAt 15), globals := 3, closure := [], defaults := .none, kwdefaults := .none, doc := .none, pyModule := .str (Str.ofString "cpy313.email.utils") 568, annotations := none, code := .ref 236, closureTuple := .none, builtins := 0 }
noncomputable abbrev a_law_drawn : Addr := 244
noncomputable def body_law_drawn : List Stmt := (bodyOf (stAt 17))
noncomputable def fd_law_drawn : FuncData := { name := (Str.ofString "_law_drawn"), qualname := (Str.ofString "_law_drawn"), params := parOf (stAt 17), body := .stmts body_law_drawn, scope := scOf (stAt 17), globals := 3, closure := [], defaults := .none, kwdefaults := .none, doc := .none, pyModule := .str (Str.ofString "law_tc0024_02") 602, annotations := none, code := .ref 243, closureTuple := .none, builtins := 0 }
noncomputable abbrev a_law_words : Addr := 249
noncomputable def body_law_words : List Stmt := (bodyOf (stAt 18))
noncomputable def fd_law_words : FuncData := { name := (Str.ofString "_law_words"), qualname := (Str.ofString "_law_words"), params := parOf (stAt 18), body := .stmts body_law_words, scope := scOf (stAt 18), globals := 3, closure := [], defaults := .none, kwdefaults := .none, doc := .none, pyModule := .str (Str.ofString "law_tc0024_02") 602, annotations := none, code := .ref 248, closureTuple := .none, builtins := 0 }
noncomputable abbrev a_law_sizes : Addr := 254
noncomputable def body_law_sizes : List Stmt := (bodyOf (stAt 19))
noncomputable def fd_law_sizes : FuncData := { name := (Str.ofString "_law_sizes"), qualname := (Str.ofString "_law_sizes"), params := parOf (stAt 19), body := .stmts body_law_sizes, scope := scOf (stAt 19), globals := 3, closure := [], defaults := .none, kwdefaults := .none, doc := .none, pyModule := .str (Str.ofString "law_tc0024_02") 602, annotations := none, code := .ref 253, closureTuple := .none, builtins := 0 }
noncomputable abbrev a_law : Addr := 259
noncomputable def body_law : List Stmt := (bodyOf (stAt 20))
noncomputable def fd_law : FuncData := { name := (Str.ofString "law"), qualname := (Str.ofString "law"), params := parOf (stAt 20), body := .stmts body_law, scope := scOf (stAt 20), globals := 3, closure := [], defaults := .none, kwdefaults := .none, doc := .none, pyModule := .str (Str.ofString "law_tc0024_02") 602, annotations := none, code := .ref 258, closureTuple := .none, builtins := 0 }
noncomputable def KF (P : Params) : Frag := [
  (2, ⟨.none, none, .dict #[⟨PyData.keyHash P (Str.ofString "\x69mport.loaded._sre"), .str (Str.ofString "\x69mport.loaded._sre") 183, .bool true⟩, ⟨PyData.keyHash P (Str.ofString "class._frozen_importlib.BuiltinImporter"), .str (Str.ofString "class._frozen_importlib.BuiltinImporter") 185, .ref 14⟩, ⟨PyData.keyHash P (Str.ofString "watched.\x69mport"), .str (Str.ofString "watched.\x69mport") 206, .ref 18⟩, ⟨PyData.keyHash P (Str.ofString "class._frozen_importlib.ModuleSpec"), .str (Str.ofString "class._frozen_importlib.ModuleSpec") 216, .ref 22⟩, ⟨PyData.keyHash P (Str.ofString "sys.modules.booked-epoch"), .str (Str.ofString "sys.modules.booked-epoch") 245, .int 3 0⟩, ⟨PyData.keyHash P (Str.ofString "\x69mport.later-laid._sre"), .str (Str.ofString "\x69mport.later-laid._sre") 270, .bool true⟩, ⟨PyData.keyHash P (Str.ofString "watched.library"), .str (Str.ofString "watched.library") 272, .ref 27⟩, ⟨PyData.keyHash P (Str.ofString "watched.library-objects"), .str (Str.ofString "watched.library-objects") 0, .str (Str.ofString "\x0c") 0⟩, ⟨PyData.keyHash P (Str.ofString "watched.library-deep._sre"), .str (Str.ofString "watched.library-deep._sre") 273, .str (Str.ofString "\x04\x00\x00\x0b\x04\x00\x00\x0b\x04\x00\x00\x03\x04\x00\x00\x0b\x08\x04dict\x02") 0⟩] 9, #[]⟩),
  (3, ⟨.type "dict", none, .dict #[⟨PyData.keyHash P (Str.ofString "__name__"), .str (Str.ofString "__name__") 165, .str (Str.ofString "law_tc0024_02") 602⟩, ⟨PyData.keyHash P (Str.ofString "__doc__"), .str (Str.ofString "__doc__") 166, .none⟩, ⟨PyData.keyHash P (Str.ofString "__package__"), .str (Str.ofString "__package__") 167, .none⟩, ⟨PyData.keyHash P (Str.ofString "__loader__"), .str (Str.ofString "__loader__") 168, .builtin "__main__.__loader__#opaque"⟩, ⟨PyData.keyHash P (Str.ofString "__spec__"), .str (Str.ofString "__spec__") 169, .none⟩, ⟨PyData.keyHash P (Str.ofString "__annotations__"), .str (Str.ofString "__annotations__") 170, .ref 6⟩, ⟨PyData.keyHash P (Str.ofString "__builtins__"), .str (Str.ofString "__builtins__") 171, .ref 4⟩, ⟨PyData.keyHash P (Str.ofString "__file__"), .str (Str.ofString "__file__") 173, .str (Str.ofString "/claim/cut.py") 172⟩, ⟨PyData.keyHash P (Str.ofString "__cached__"), .str (Str.ofString "__cached__") 174, .none⟩, ⟨PyData.keyHash P (Str.ofString "_sre"), .str (Str.ofString "_sre") 275, .ref 12⟩, ⟨PyData.keyHash P (Str.ofString "_wall"), .str (Str.ofString "_wall") 288, .ref 38⟩, ⟨PyData.keyHash P (Str.ofString "_twin_re_1"), .str (Str.ofString "_twin_re_1") 306, .ref 43⟩, ⟨PyData.keyHash P (Str.ofString "_twin_re_2"), .str (Str.ofString "_twin_re_2") 348, .ref 48⟩, ⟨PyData.keyHash P (Str.ofString "CRLF"), .str (Str.ofString "CRLF") 350, .str (Str.ofString "\r\n") 349⟩, ⟨PyData.keyHash P (Str.ofString "quotedata"), .str (Str.ofString "quotedata") 357, .ref 55⟩, ⟨PyData.keyHash P (Str.ofString "NL"), .str (Str.ofString "NL") 361, .str (Str.ofString "\n") 360⟩, ⟨PyData.keyHash P (Str.ofString "EMPTYSTRING"), .str (Str.ofString "EMPTYSTRING") 363, .str (Str.ofString "") 362⟩, ⟨PyData.keyHash P (Str.ofString "_ValueFormatter"), .str (Str.ofString "_ValueFormatter") 471, .ref 128⟩, ⟨PyData.keyHash P (Str.ofString "_Accumulator"), .str (Str.ofString "_Accumulator") 567, .ref 212⟩, ⟨PyData.keyHash P (Str.ofString "_iter_escaped_chars"), .str (Str.ofString "_iter_escaped_chars") 579, .ref 223⟩, ⟨PyData.keyHash P (Str.ofString "_strip_quoted_realnames"), .str (Str.ofString "_strip_quoted_realnames") 591, .ref 230⟩, ⟨PyData.keyHash P (Str.ofString "_check_parenthesis"), .str (Str.ofString "_check_parenthesis") 601, .ref 237⟩, ⟨PyData.keyHash P (Str.ofString "_law_drawn"), .str (Str.ofString "_law_drawn") 617, .ref 244⟩, ⟨PyData.keyHash P (Str.ofString "_law_words"), .str (Str.ofString "_law_words") 623, .ref 249⟩, ⟨PyData.keyHash P (Str.ofString "_law_sizes"), .str (Str.ofString "_law_sizes") 629, .ref 254⟩, ⟨PyData.keyHash P (Str.ofString "law"), .str (Str.ofString "law") 635, .ref 259⟩] 26, #[]⟩),
  (42, ⟨.type "tuple", none, .seq #[.int 14 0, .int 4 0, .int 0 0, .int 1 0, .int 1 0, .int 6 0, .int 1 0, .int 16 0, .int 46 0, .int 1 0] 0, #[]⟩),
  (43, ⟨.type "re.Pattern", none, .fields #[.str (Str.ofString "(?m)^\\.") 292, .int 40 305, .int 0 0, .none, .none, .ref 42, .int 0 0], #[]⟩),
  (47, ⟨.type "tuple", none, .seq #[.int 14 0, .int 9 0, .int 4 0, .int 1 0, .int 2 0, .int 16 0, .int 10 0, .int 16 0, .int 13 0, .int 0 0, .int 7 0, .int 7 0, .int 16 0, .int 13 0, .int 16 0, .int 10 0, .int 15 0, .int 18 0, .int 5 0, .int 16 0, .int 10 0, .int 15 0, .int 13 0, .int 11 0, .int 16 0, .int 13 0, .int 5 0, .int 5 0, .int 0 0, .int 16 0, .int 10 0, .int 1 0, .int 15 0, .int 2 0, .int 0 0, .int 1 0] 0, #[]⟩),
  (48, ⟨.type "re.Pattern", none, .fields #[.str (Str.ofString "(?:\\r\\n|\\n|\\r(?!\\n))") 308, .int 32 347, .int 0 0, .none, .none, .ref 47, .int 0 0], #[]⟩),
  (54, ⟨.type "code", none, .fields #[.str (Str.ofString "quotedata") 351, .str (Str.ofString "quotedata") 352, .str (Str.ofString "/claim/cut.py") 353, .int 9 0, .int 1 0, .int 0 0, .int 0 0, .int 3 0, .ref 49, .bool true, .int 276 0, .ref 50, .none, .ref 51, .ref 52, .ref 53, .int 355 0, .int 9 0, .str (Str.ofString "/claim/cut.py") 356], #[]⟩),
  (55, ⟨.type "function", none, .func fd_quotedata, #[]⟩),
  (68, ⟨.type "code", none, .fields #[.str (Str.ofString "__init__") 376, .str (Str.ofString "_ValueFormatter.__init__") 377, .str (Str.ofString "/claim/cut.py") 378, .int 16 0, .int 5 0, .int 0 0, .int 0 0, .int 3 0, .ref 63, .bool true, .int 276 0, .ref 64, .none, .ref 65, .ref 66, .ref 67, .int 384 0, .int 16 0, .str (Str.ofString "/claim/cut.py") 385], #[]⟩),
  (69, ⟨.type "function", none, .func fd_VF_dinit, #[]⟩),
  (75, ⟨.type "code", none, .fields #[.str (Str.ofString "_str") 387, .str (Str.ofString "_ValueFormatter._str") 388, .str (Str.ofString "/claim/cut.py") 389, .int 24 0, .int 2 0, .int 0 0, .int 0 0, .int 3 0, .ref 70, .bool true, .int 276 0, .ref 71, .none, .ref 72, .ref 73, .ref 74, .int 392 0, .int 24 0, .str (Str.ofString "/claim/cut.py") 393], #[]⟩),
  (76, ⟨.type "function", none, .func fd_VF_str, #[]⟩),
  (82, ⟨.type "code", none, .fields #[.str (Str.ofString "__str__") 395, .str (Str.ofString "_ValueFormatter.__str__") 396, .str (Str.ofString "/claim/cut.py") 397, .int 28 0, .int 1 0, .int 0 0, .int 0 0, .int 3 0, .ref 77, .bool true, .int 276 0, .ref 78, .none, .ref 79, .ref 80, .ref 81, .int 399 0, .int 28 0, .str (Str.ofString "/claim/cut.py") 400], #[]⟩),
  (83, ⟨.type "function", none, .func fd_VF_dstr, #[]⟩),
  (89, ⟨.type "code", none, .fields #[.str (Str.ofString "newline") 402, .str (Str.ofString "_ValueFormatter.newline") 403, .str (Str.ofString "/claim/cut.py") 404, .int 31 0, .int 1 0, .int 0 0, .int 0 0, .int 3 0, .ref 84, .bool true, .int 276 0, .ref 85, .none, .ref 86, .ref 87, .ref 88, .int 407 0, .int 31 0, .str (Str.ofString "/claim/cut.py") 408], #[]⟩),
  (90, ⟨.type "function", none, .func fd_VF_newline, #[]⟩),
  (124, ⟨.type "code", none, .fields #[.str (Str.ofString "_append_chunk") 444, .str (Str.ofString "_ValueFormatter._append_chunk") 445, .str (Str.ofString "/claim/cut.py") 446, .int 54 0, .int 3 0, .int 0 0, .int 0 0, .int 3 0, .ref 119, .bool true, .int 276 0, .ref 120, .none, .ref 121, .ref 122, .ref 123, .int 455 0, .int 54 0, .str (Str.ofString "/claim/cut.py") 456], #[]⟩),
  (125, ⟨.type "function", none, .func fd_VF_append_chunk, #[]⟩),
  (127, ⟨.type "dict", none, .dict #[⟨PyData.keyHash P (Str.ofString "__module__"), .str (Str.ofString "__module__") 371, .str (Str.ofString "cpy313.email.header") 358⟩, ⟨PyData.keyHash P (Str.ofString "__firstlineno__"), .str (Str.ofString "__firstlineno__") 375, .int 14 374⟩, ⟨PyData.keyHash P (Str.ofString "__init__"), .str (Str.ofString "__init__") 386, .ref 69⟩, ⟨PyData.keyHash P (Str.ofString "_str"), .str (Str.ofString "_str") 394, .ref 76⟩, ⟨PyData.keyHash P (Str.ofString "__str__"), .str (Str.ofString "__str__") 401, .ref 83⟩, ⟨PyData.keyHash P (Str.ofString "newline"), .str (Str.ofString "newline") 409, .ref 90⟩, ⟨PyData.keyHash P (Str.ofString "add_transition"), .str (Str.ofString "add_transition") 416, .ref 97⟩, ⟨PyData.keyHash P (Str.ofString "feed"), .str (Str.ofString "feed") 426, .ref 104⟩, ⟨PyData.keyHash P (Str.ofString "_maxlengths"), .str (Str.ofString "_maxlengths") 433, .ref 111⟩, ⟨PyData.keyHash P (Str.ofString "_ascii_split"), .str (Str.ofString "_ascii_split") 443, .ref 118⟩, ⟨PyData.keyHash P (Str.ofString "_append_chunk"), .str (Str.ofString "_append_chunk") 457, .ref 125⟩, ⟨PyData.keyHash P (Str.ofString "__static_attributes__"), .str (Str.ofString "__static_attributes__") 464, .ref 126⟩, ⟨PyData.keyHash P (Str.ofString "__dict__"), .str (Str.ofString "__dict__") 466, .ref 129⟩, ⟨PyData.keyHash P (Str.ofString "__weakref__"), .str (Str.ofString "__weakref__") 468, .ref 130⟩, ⟨PyData.keyHash P (Str.ofString "__doc__"), .str (Str.ofString "__doc__") 469, .none⟩] 4, #[]⟩),
  (128, ⟨.type "type", none, .cls { name := (Str.ofString "_ValueFormatter"), bases := [.type "object"], mro := [.ref 128, .type "object"], ns := 127, qualname := (Str.ofString "_ValueFormatter"), hasDict := true, slotNames := [], subclasses := [], abstract := false, collection := none, hasDel := false }, #[none, none, (some (.str (Str.ofString "_ValueFormatter") 364)), (some (.str (Str.ofString "_ValueFormatter") 372)), (some (.builtin "object.__new__")), (some (.bool true))]⟩),
  (136, ⟨.type "cell", none, .cell (some (.ref 212)), #[]⟩),
  (141, ⟨.type "tuple", none, .seq #[.int 0 484] 0, #[]⟩),
  (148, ⟨.type "code", none, .fields #[.str (Str.ofString "__init__") 485, .str (Str.ofString "_Accumulator.__init__") 486, .str (Str.ofString "/claim/cut.py") 487, .int 82 0, .int 2 0, .int 0 0, .int 0 0, .int 3 0, .ref 143, .bool true, .int 276 0, .ref 144, .none, .ref 145, .ref 146, .ref 147, .int 491 0, .int 82 0, .str (Str.ofString "/claim/cut.py") 492], #[]⟩),
  (149, ⟨.type "function", none, .func fd_Acc_dinit, #[]⟩),
  (155, ⟨.type "code", none, .fields #[.str (Str.ofString "push") 494, .str (Str.ofString "_Accumulator.push") 495, .str (Str.ofString "/claim/cut.py") 496, .int 86 0, .int 3 0, .int 0 0, .int 0 0, .int 3 0, .ref 150, .bool true, .int 276 0, .ref 151, .none, .ref 152, .ref 153, .ref 154, .int 500 0, .int 86 0, .str (Str.ofString "/claim/cut.py") 501], #[]⟩),
  (156, ⟨.type "function", none, .func fd_Acc_push, #[]⟩),
  (157, ⟨.type "tuple", none, .seq #[.int 0 503] 0, #[]⟩),
  (163, ⟨.type "code", none, .fields #[.str (Str.ofString "pop_from") 504, .str (Str.ofString "_Accumulator.pop_from") 505, .str (Str.ofString "/claim/cut.py") 506, .int 89 0, .int 2 0, .int 0 0, .int 0 0, .int 3 0, .ref 158, .bool true, .int 276 0, .ref 159, .none, .ref 160, .ref 161, .ref 162, .int 510 0, .int 89 0, .str (Str.ofString "/claim/cut.py") 511], #[]⟩),
  (164, ⟨.type "function", none, .func fd_Acc_pop_from, #[]⟩),
  (171, ⟨.type "code", none, .fields #[.str (Str.ofString "pop") 513, .str (Str.ofString "_Accumulator.pop") 514, .str (Str.ofString "/claim/cut.py") 515, .int 94 0, .int 1 0, .int 0 0, .int 0 0, .int 3 0, .ref 166, .bool true, .int 276 0, .ref 167, .none, .ref 168, .ref 169, .ref 170, .int 518 0, .int 94 0, .str (Str.ofString "/claim/cut.py") 519], #[]⟩),
  (172, ⟨.type "function", none, .func fd_Acc_pop, #[]⟩),
  (178, ⟨.type "code", none, .fields #[.str (Str.ofString "__len__") 521, .str (Str.ofString "_Accumulator.__len__") 522, .str (Str.ofString "/claim/cut.py") 523, .int 99 0, .int 1 0, .int 0 0, .int 0 0, .int 3 0, .ref 173, .bool true, .int 276 0, .ref 174, .none, .ref 175, .ref 176, .ref 177, .int 525 0, .int 99 0, .str (Str.ofString "/claim/cut.py") 526], #[]⟩),
  (179, ⟨.type "function", none, .func fd_Acc_dlen, #[]⟩),
  (185, ⟨.type "code", none, .fields #[.str (Str.ofString "__str__") 528, .str (Str.ofString "_Accumulator.__str__") 529, .str (Str.ofString "/claim/cut.py") 530, .int 102 0, .int 1 0, .int 0 0, .int 0 0, .int 3 0, .ref 180, .bool true, .int 276 0, .ref 181, .none, .ref 182, .ref 183, .ref 184, .int 532 0, .int 102 0, .str (Str.ofString "/claim/cut.py") 533], #[]⟩),
  (186, ⟨.type "function", none, .func fd_Acc_dstr, #[]⟩),
  (187, ⟨.type "tuple", none, .seq #[.none] 0, #[]⟩),
  (193, ⟨.type "code", none, .fields #[.str (Str.ofString "reset") 535, .str (Str.ofString "_Accumulator.reset") 536, .str (Str.ofString "/claim/cut.py") 537, .int 105 0, .int 2 0, .int 0 0, .int 0 0, .int 3 0, .ref 188, .bool true, .int 276 0, .ref 189, .none, .ref 190, .ref 191, .ref 192, .int 540 0, .int 105 0, .str (Str.ofString "/claim/cut.py") 541], #[]⟩),
  (194, ⟨.type "function", none, .func fd_Acc_reset, #[]⟩),
  (200, ⟨.type "code", none, .fields #[.str (Str.ofString "is_onlyws") 543, .str (Str.ofString "_Accumulator.is_onlyws") 544, .str (Str.ofString "/claim/cut.py") 545, .int 111 0, .int 1 0, .int 0 0, .int 0 0, .int 3 0, .ref 195, .bool true, .int 276 0, .ref 196, .none, .ref 197, .ref 198, .ref 199, .int 547 0, .int 111 0, .str (Str.ofString "/claim/cut.py") 548], #[]⟩),
  (201, ⟨.type "function", none, .func fd_Acc_is_onlyws, #[]⟩),
  (208, ⟨.type "code", none, .fields #[.str (Str.ofString "part_count") 550, .str (Str.ofString "_Accumulator.part_count") 551, .str (Str.ofString "/claim/cut.py") 552, .int 114 0, .int 1 0, .int 0 0, .int 0 0, .int 3 0, .ref 203, .bool true, .int 276 0, .ref 204, .none, .ref 205, .ref 206, .ref 207, .int 555 0, .int 114 0, .str (Str.ofString "/claim/cut.py") 556], #[]⟩),
  (209, ⟨.type "function", none, .func fd_Acc_part_count, #[]⟩),
  (211, ⟨.type "dict", none, .dict #[⟨PyData.keyHash P (Str.ofString "__module__"), .str (Str.ofString "__module__") 479, .str (Str.ofString "cpy313.email.header") 358⟩, ⟨PyData.keyHash P (Str.ofString "__firstlineno__"), .str (Str.ofString "__firstlineno__") 483, .int 80 482⟩, ⟨PyData.keyHash P (Str.ofString "__init__"), .str (Str.ofString "__init__") 493, .ref 149⟩, ⟨PyData.keyHash P (Str.ofString "push"), .str (Str.ofString "push") 502, .ref 156⟩, ⟨PyData.keyHash P (Str.ofString "pop_from"), .str (Str.ofString "pop_from") 512, .ref 164⟩, ⟨PyData.keyHash P (Str.ofString "pop"), .str (Str.ofString "pop") 520, .ref 172⟩, ⟨PyData.keyHash P (Str.ofString "__len__"), .str (Str.ofString "__len__") 527, .ref 179⟩, ⟨PyData.keyHash P (Str.ofString "__str__"), .str (Str.ofString "__str__") 534, .ref 186⟩, ⟨PyData.keyHash P (Str.ofString "reset"), .str (Str.ofString "reset") 542, .ref 194⟩, ⟨PyData.keyHash P (Str.ofString "is_onlyws"), .str (Str.ofString "is_onlyws") 549, .ref 201⟩, ⟨PyData.keyHash P (Str.ofString "part_count"), .str (Str.ofString "part_count") 557, .ref 209⟩, ⟨PyData.keyHash P (Str.ofString "__static_attributes__"), .str (Str.ofString "__static_attributes__") 559, .ref 210⟩, ⟨PyData.keyHash P (Str.ofString "__dict__"), .str (Str.ofString "__dict__") 562, .ref 213⟩, ⟨PyData.keyHash P (Str.ofString "__weakref__"), .str (Str.ofString "__weakref__") 564, .ref 214⟩, ⟨PyData.keyHash P (Str.ofString "__doc__"), .str (Str.ofString "__doc__") 565, .none⟩] 5, #[]⟩),
  (212, ⟨.type "type", none, .cls { name := (Str.ofString "_Accumulator"), bases := [.type "list"], mro := [.ref 212, .type "list", .type "object"], ns := 211, qualname := (Str.ofString "_Accumulator"), hasDict := true, slotNames := [], subclasses := [], abstract := false, collection := none, hasDel := false }, #[(some (.ref 133)), none, (some (.str (Str.ofString "_Accumulator") 472)), (some (.str (Str.ofString "_Accumulator") 480)), (some (.builtin "list.__new__")), (some (.bool true))]⟩),
  (222, ⟨.type "code", none, .fields #[.str (Str.ofString "_iter_escaped_chars") 570, .str (Str.ofString "_iter_escaped_chars") 571, .str (Str.ofString "/claim/cut.py") 572, .int 117 0, .int 1 0, .int 0 0, .int 0 0, .int 35 0, .ref 217, .bool true, .int 276 0, .ref 218, .none, .ref 219, .ref 220, .ref 221, .int 577 0, .int 117 0, .str (Str.ofString "/claim/cut.py") 578], #[]⟩),
  (223, ⟨.type "function", none, .func fd_iter_escaped_chars, #[]⟩),
  (229, ⟨.type "code", none, .fields #[.str (Str.ofString "_strip_quoted_realnames") 580, .str (Str.ofString "_strip_quoted_realnames") 581, .str (Str.ofString "/claim/cut.py") 582, .int 130 0, .int 1 0, .int 0 0, .int 0 0, .int 3 0, .ref 224, .bool true, .int 276 0, .ref 225, .none, .ref 226, .ref 227, .ref 228, .int 589 0, .int 130 0, .str (Str.ofString "/claim/cut.py") 590], #[]⟩),
  (230, ⟨.type "function", none, .func fd_strip_quoted_realnames, #[]⟩),
  (236, ⟨.type "code", none, .fields #[.str (Str.ofString "_check_parenthesis") 592, .str (Str.ofString "_check_parenthesis") 593, .str (Str.ofString "/claim/cut.py") 594, .int 148 0, .int 1 0, .int 0 0, .int 0 0, .int 3 0, .ref 231, .bool true, .int 276 0, .ref 232, .none, .ref 233, .ref 234, .ref 235, .int 599 0, .int 148 0, .str (Str.ofString "/claim/cut.py") 600], #[]⟩),
  (237, ⟨.type "function", none, .func fd_check_parenthesis, #[]⟩),
  (243, ⟨.type "code", none, .fields #[.str (Str.ofString "_law_drawn") 604, .str (Str.ofString "_law_drawn") 605, .str (Str.ofString "/claim/cut.py") 606, .int 160 0, .int 3 0, .int 0 0, .int 0 0, .int 3 0, .ref 238, .bool true, .int 276 0, .ref 239, .none, .ref 240, .ref 241, .ref 242, .int 615 0, .int 160 0, .str (Str.ofString "/claim/cut.py") 616], #[]⟩),
  (244, ⟨.type "function", none, .func fd_law_drawn, #[]⟩),
  (248, ⟨.type "code", none, .fields #[.str (Str.ofString "_law_words") 618, .str (Str.ofString "_law_words") 619, .str (Str.ofString "/claim/cut.py") 620, .int 167 0, .int 1 0, .int 0 0, .int 0 0, .int 3 0, .ref 245, .bool true, .int 276 0, .ref 246, .none, .none, .none, .ref 247, .int 621 0, .int 167 0, .str (Str.ofString "/claim/cut.py") 622], #[]⟩),
  (249, ⟨.type "function", none, .func fd_law_words, #[]⟩),
  (253, ⟨.type "code", none, .fields #[.str (Str.ofString "_law_sizes") 624, .str (Str.ofString "_law_sizes") 625, .str (Str.ofString "/claim/cut.py") 626, .int 182 0, .int 2 0, .int 0 0, .int 0 0, .int 3 0, .ref 250, .bool true, .int 276 0, .ref 251, .none, .none, .none, .ref 252, .int 627 0, .int 182 0, .str (Str.ofString "/claim/cut.py") 628], #[]⟩),
  (254, ⟨.type "function", none, .func fd_law_sizes, #[]⟩),
  (258, ⟨.type "code", none, .fields #[.str (Str.ofString "law") 630, .str (Str.ofString "law") 631, .str (Str.ofString "/claim/cut.py") 632, .int 187 0, .int 1 0, .int 0 0, .int 0 0, .int 3 0, .ref 255, .bool true, .int 276 0, .ref 256, .none, .none, .none, .ref 257, .int 633 0, .int 187 0, .str (Str.ofString "/claim/cut.py") 634], #[]⟩),
  (259, ⟨.type "function", none, .func fd_law, #[]⟩)]
theorem lk_quotedata (P : Params) : (KF P).lookup a_quotedata = some ⟨.type "function", none, .func fd_quotedata, #[]⟩ := by kernel_rfl
theorem cd_quotedata (P : Params) : codeIn (KF P) fd_quotedata.code fd_quotedata.qualname = true := by kernel_rfl
theorem lk_VF_dinit (P : Params) : (KF P).lookup a_VF_dinit = some ⟨.type "function", none, .func fd_VF_dinit, #[]⟩ := by kernel_rfl
theorem cd_VF_dinit (P : Params) : codeIn (KF P) fd_VF_dinit.code fd_VF_dinit.qualname = true := by kernel_rfl
theorem lk_VF_str (P : Params) : (KF P).lookup a_VF_str = some ⟨.type "function", none, .func fd_VF_str, #[]⟩ := by kernel_rfl
theorem cd_VF_str (P : Params) : codeIn (KF P) fd_VF_str.code fd_VF_str.qualname = true := by kernel_rfl
theorem lk_VF_dstr (P : Params) : (KF P).lookup a_VF_dstr = some ⟨.type "function", none, .func fd_VF_dstr, #[]⟩ := by kernel_rfl
theorem cd_VF_dstr (P : Params) : codeIn (KF P) fd_VF_dstr.code fd_VF_dstr.qualname = true := by kernel_rfl
theorem lk_VF_newline (P : Params) : (KF P).lookup a_VF_newline = some ⟨.type "function", none, .func fd_VF_newline, #[]⟩ := by kernel_rfl
theorem cd_VF_newline (P : Params) : codeIn (KF P) fd_VF_newline.code fd_VF_newline.qualname = true := by kernel_rfl
theorem lk_VF_append_chunk (P : Params) : (KF P).lookup a_VF_append_chunk = some ⟨.type "function", none, .func fd_VF_append_chunk, #[]⟩ := by kernel_rfl
theorem cd_VF_append_chunk (P : Params) : codeIn (KF P) fd_VF_append_chunk.code fd_VF_append_chunk.qualname = true := by kernel_rfl
theorem lk_Acc_dinit (P : Params) : (KF P).lookup a_Acc_dinit = some ⟨.type "function", none, .func fd_Acc_dinit, #[]⟩ := by kernel_rfl
theorem cd_Acc_dinit (P : Params) : codeIn (KF P) fd_Acc_dinit.code fd_Acc_dinit.qualname = true := by kernel_rfl
theorem lk_Acc_push (P : Params) : (KF P).lookup a_Acc_push = some ⟨.type "function", none, .func fd_Acc_push, #[]⟩ := by kernel_rfl
theorem cd_Acc_push (P : Params) : codeIn (KF P) fd_Acc_push.code fd_Acc_push.qualname = true := by kernel_rfl
theorem lk_Acc_pop_from (P : Params) : (KF P).lookup a_Acc_pop_from = some ⟨.type "function", none, .func fd_Acc_pop_from, #[]⟩ := by kernel_rfl
theorem cd_Acc_pop_from (P : Params) : codeIn (KF P) fd_Acc_pop_from.code fd_Acc_pop_from.qualname = true := by kernel_rfl
theorem lk_Acc_pop (P : Params) : (KF P).lookup a_Acc_pop = some ⟨.type "function", none, .func fd_Acc_pop, #[]⟩ := by kernel_rfl
theorem cd_Acc_pop (P : Params) : codeIn (KF P) fd_Acc_pop.code fd_Acc_pop.qualname = true := by kernel_rfl
theorem lk_Acc_dlen (P : Params) : (KF P).lookup a_Acc_dlen = some ⟨.type "function", none, .func fd_Acc_dlen, #[]⟩ := by kernel_rfl
theorem cd_Acc_dlen (P : Params) : codeIn (KF P) fd_Acc_dlen.code fd_Acc_dlen.qualname = true := by kernel_rfl
theorem lk_Acc_dstr (P : Params) : (KF P).lookup a_Acc_dstr = some ⟨.type "function", none, .func fd_Acc_dstr, #[]⟩ := by kernel_rfl
theorem cd_Acc_dstr (P : Params) : codeIn (KF P) fd_Acc_dstr.code fd_Acc_dstr.qualname = true := by kernel_rfl
theorem lk_Acc_reset (P : Params) : (KF P).lookup a_Acc_reset = some ⟨.type "function", none, .func fd_Acc_reset, #[]⟩ := by kernel_rfl
theorem cd_Acc_reset (P : Params) : codeIn (KF P) fd_Acc_reset.code fd_Acc_reset.qualname = true := by kernel_rfl
theorem lk_Acc_is_onlyws (P : Params) : (KF P).lookup a_Acc_is_onlyws = some ⟨.type "function", none, .func fd_Acc_is_onlyws, #[]⟩ := by kernel_rfl
theorem cd_Acc_is_onlyws (P : Params) : codeIn (KF P) fd_Acc_is_onlyws.code fd_Acc_is_onlyws.qualname = true := by kernel_rfl
theorem lk_Acc_part_count (P : Params) : (KF P).lookup a_Acc_part_count = some ⟨.type "function", none, .func fd_Acc_part_count, #[]⟩ := by kernel_rfl
theorem cd_Acc_part_count (P : Params) : codeIn (KF P) fd_Acc_part_count.code fd_Acc_part_count.qualname = true := by kernel_rfl
theorem lk_iter_escaped_chars (P : Params) : (KF P).lookup a_iter_escaped_chars = some ⟨.type "function", none, .func fd_iter_escaped_chars, #[]⟩ := by kernel_rfl
theorem cd_iter_escaped_chars (P : Params) : codeIn (KF P) fd_iter_escaped_chars.code fd_iter_escaped_chars.qualname = true := by kernel_rfl
theorem lk_strip_quoted_realnames (P : Params) : (KF P).lookup a_strip_quoted_realnames = some ⟨.type "function", none, .func fd_strip_quoted_realnames, #[]⟩ := by kernel_rfl
theorem cd_strip_quoted_realnames (P : Params) : codeIn (KF P) fd_strip_quoted_realnames.code fd_strip_quoted_realnames.qualname = true := by kernel_rfl
theorem lk_check_parenthesis (P : Params) : (KF P).lookup a_check_parenthesis = some ⟨.type "function", none, .func fd_check_parenthesis, #[]⟩ := by kernel_rfl
theorem cd_check_parenthesis (P : Params) : codeIn (KF P) fd_check_parenthesis.code fd_check_parenthesis.qualname = true := by kernel_rfl
theorem lk_law_drawn (P : Params) : (KF P).lookup a_law_drawn = some ⟨.type "function", none, .func fd_law_drawn, #[]⟩ := by kernel_rfl
theorem cd_law_drawn (P : Params) : codeIn (KF P) fd_law_drawn.code fd_law_drawn.qualname = true := by kernel_rfl
theorem lk_law_words (P : Params) : (KF P).lookup a_law_words = some ⟨.type "function", none, .func fd_law_words, #[]⟩ := by kernel_rfl
theorem cd_law_words (P : Params) : codeIn (KF P) fd_law_words.code fd_law_words.qualname = true := by kernel_rfl
theorem lk_law_sizes (P : Params) : (KF P).lookup a_law_sizes = some ⟨.type "function", none, .func fd_law_sizes, #[]⟩ := by kernel_rfl
theorem cd_law_sizes (P : Params) : codeIn (KF P) fd_law_sizes.code fd_law_sizes.qualname = true := by kernel_rfl
theorem lk_law (P : Params) : (KF P).lookup a_law = some ⟨.type "function", none, .func fd_law, #[]⟩ := by kernel_rfl
theorem cd_law (P : Params) : codeIn (KF P) fd_law.code fd_law.qualname = true := by kernel_rfl
noncomputable def qv : Program := { pw with main := { pw.main with body := [stAt 0, stAt 20] } }
noncomputable def lz : List PySem.Str := [Str.ofString "_wall", Str.ofString "_twin_re_1", Str.ofString "_twin_re_2", Str.ofString "CRLF", Str.ofString "quotedata", Str.ofString "NL", Str.ofString "EMPTYSTRING", Str.ofString "_ValueFormatter", Str.ofString "_Accumulator", Str.ofString "_iter_escaped_chars", Str.ofString "_strip_quoted_realnames", Str.ofString "_check_parenthesis", Str.ofString "_law_drawn", Str.ofString "_law_words", Str.ofString "_law_sizes"]
noncomputable def kAddrs : List Addr := [2, 3, 42, 43, 47, 48, 54, 55, 68, 69, 75, 76, 82, 83, 89, 90, 124, 125, 127, 128, 136, 141, 148, 149, 155, 156, 157, 163, 164, 171, 172, 178, 179, 185, 186, 187, 193, 194, 200, 201, 208, 209, 211, 212, 222, 223, 229, 230, 236, 237, 243, 244, 248, 249, 253, 254, 258, 259]
noncomputable abbrev C1 : Addr := 178
noncomputable abbrev C2 : Addr := 185
noncomputable abbrev T1 : Addr := 174
noncomputable abbrev T2 : Addr := 181
noncomputable abbrev szTop : Nat := 260
noncomputable def tabOne (h : Heap) (t : Addr) : Bool := (match h.get? t with | some ⟨.none, none, .fields a, sl⟩ => a.size == 0 && sl.size == 0 | _ => false)
noncomputable def tabsIn (s : Shared) : Bool := tabOne s.heap T1 && tabOne s.heap T2
noncomputable def obsv (s : Shared) : List (Option Obj) × Nat × Bool := (kAddrs.map s.heap.get?, s.heap.objs.size, tabsIn s)
noncomputable def valv (w : World) : List (Option Obj) × Nat × Bool := ((KF w.params).map (fun p => some p.2), szTop, true)
theorem left : LeftO pw qv lz (fun s => xlAt qv [] s && recOk (RowW.records (OpenRow.toRowW (OpenLaw.row PySem.Challenge.rw_tc0024_02))) s) obsv valv 4000 := fun w => by kernel_rfl
end Mine
namespace Mine
open PySem PySem.W PySem.W.X PySem.Calls PyProof.Rows
theorem x0_3 {c1 c2 c3 : Prop} {g : Prop} (h : c1 ∧ c2 ∧ c3) (k : c1 → c2 → c3 → g) : g := by obtain ⟨p1, p2, p3⟩ := h; exact k p1 p2 p3
theorem x1_2 {t1 : Sort _} {c1 c2 : t1 → Prop} {g : Prop} (h : ∃ a1, c1 a1 ∧ c2 a1) (k : ∀ a1, c1 a1 → c2 a1 → g) : g := by obtain ⟨a1, p1, p2⟩ := h; exact k a1 p1 p2
theorem x2_1 {t1 : Sort _} {t2 : Sort _} {c1 : t1 → t2 → Prop} {g : Prop} (h : ∃ a1 a2, c1 a1 a2) (k : ∀ a1 a2, c1 a1 a2 → g) : g := by obtain ⟨a1, a2, p1⟩ := h; exact k a1 a2 p1
theorem x0_4 {c1 c2 c3 c4 : Prop} {g : Prop} (h : c1 ∧ c2 ∧ c3 ∧ c4) (k : c1 → c2 → c3 → c4 → g) : g := by obtain ⟨p1, p2, p3, p4⟩ := h; exact k p1 p2 p3 p4
theorem x1_3 {t1 : Sort _} {c1 c2 c3 : t1 → Prop} {g : Prop} (h : ∃ a1, c1 a1 ∧ c2 a1 ∧ c3 a1) (k : ∀ a1, c1 a1 → c2 a1 → c3 a1 → g) : g := by obtain ⟨a1, p1, p2, p3⟩ := h; exact k a1 p1 p2 p3
theorem x2_2 {t1 : Sort _} {t2 : Sort _} {c1 c2 : t1 → t2 → Prop} {g : Prop} (h : ∃ a1 a2, c1 a1 a2 ∧ c2 a1 a2) (k : ∀ a1 a2, c1 a1 a2 → c2 a1 a2 → g) : g := by obtain ⟨a1, a2, p1, p2⟩ := h; exact k a1 a2 p1 p2
theorem x0_5 {c1 c2 c3 c4 c5 : Prop} {g : Prop} (h : c1 ∧ c2 ∧ c3 ∧ c4 ∧ c5) (k : c1 → c2 → c3 → c4 → c5 → g) : g := by obtain ⟨p1, p2, p3, p4, p5⟩ := h; exact k p1 p2 p3 p4 p5
theorem x2_3 {t1 : Sort _} {t2 : Sort _} {c1 c2 c3 : t1 → t2 → Prop} {g : Prop} (h : ∃ a1 a2, c1 a1 a2 ∧ c2 a1 a2 ∧ c3 a1 a2) (k : ∀ a1 a2, c1 a1 a2 → c2 a1 a2 → c3 a1 a2 → g) : g := by obtain ⟨a1, a2, p1, p2, p3⟩ := h; exact k a1 a2 p1 p2 p3
theorem x3_2 {t1 : Sort _} {t2 : Sort _} {t3 : Sort _} {c1 c2 : t1 → t2 → t3 → Prop} {g : Prop} (h : ∃ a1 a2 a3, c1 a1 a2 a3 ∧ c2 a1 a2 a3) (k : ∀ a1 a2 a3, c1 a1 a2 a3 → c2 a1 a2 a3 → g) : g := by obtain ⟨a1, a2, a3, p1, p2⟩ := h; exact k a1 a2 a3 p1 p2
theorem x3_3 {t1 : Sort _} {t2 : Sort _} {t3 : Sort _} {c1 c2 c3 : t1 → t2 → t3 → Prop} {g : Prop} (h : ∃ a1 a2 a3, c1 a1 a2 a3 ∧ c2 a1 a2 a3 ∧ c3 a1 a2 a3) (k : ∀ a1 a2 a3, c1 a1 a2 a3 → c2 a1 a2 a3 → c3 a1 a2 a3 → g) : g := by obtain ⟨a1, a2, a3, p1, p2, p3⟩ := h; exact k a1 a2 a3 p1 p2 p3
theorem x4_2 {t1 : Sort _} {t2 : Sort _} {t3 : Sort _} {t4 : Sort _} {c1 c2 : t1 → t2 → t3 → t4 → Prop} {g : Prop} (h : ∃ a1 a2 a3 a4, c1 a1 a2 a3 a4 ∧ c2 a1 a2 a3 a4) (k : ∀ a1 a2 a3 a4, c1 a1 a2 a3 a4 → c2 a1 a2 a3 a4 → g) : g := by obtain ⟨a1, a2, a3, a4, p1, p2⟩ := h; exact k a1 a2 a3 a4 p1 p2
theorem x3_4 {t1 : Sort _} {t2 : Sort _} {t3 : Sort _} {c1 c2 c3 c4 : t1 → t2 → t3 → Prop} {g : Prop} (h : ∃ a1 a2 a3, c1 a1 a2 a3 ∧ c2 a1 a2 a3 ∧ c3 a1 a2 a3 ∧ c4 a1 a2 a3) (k : ∀ a1 a2 a3, c1 a1 a2 a3 → c2 a1 a2 a3 → c3 a1 a2 a3 → c4 a1 a2 a3 → g) : g := by obtain ⟨a1, a2, a3, p1, p2, p3, p4⟩ := h; exact k a1 a2 a3 p1 p2 p3 p4
theorem x2_6 {t1 : Sort _} {t2 : Sort _} {c1 c2 c3 c4 c5 c6 : t1 → t2 → Prop} {g : Prop} (h : ∃ a1 a2, c1 a1 a2 ∧ c2 a1 a2 ∧ c3 a1 a2 ∧ c4 a1 a2 ∧ c5 a1 a2 ∧ c6 a1 a2) (k : ∀ a1 a2, c1 a1 a2 → c2 a1 a2 → c3 a1 a2 → c4 a1 a2 → c5 a1 a2 → c6 a1 a2 → g) : g := by obtain ⟨a1, a2, p1, p2, p3, p4, p5, p6⟩ := h; exact k a1 a2 p1 p2 p3 p4 p5 p6
theorem x4_4 {t1 : Sort _} {t2 : Sort _} {t3 : Sort _} {t4 : Sort _} {c1 c2 c3 c4 : t1 → t2 → t3 → t4 → Prop} {g : Prop} (h : ∃ a1 a2 a3 a4, c1 a1 a2 a3 a4 ∧ c2 a1 a2 a3 a4 ∧ c3 a1 a2 a3 a4 ∧ c4 a1 a2 a3 a4) (k : ∀ a1 a2 a3 a4, c1 a1 a2 a3 a4 → c2 a1 a2 a3 a4 → c3 a1 a2 a3 a4 → c4 a1 a2 a3 a4 → g) : g := by obtain ⟨a1, a2, a3, a4, p1, p2, p3, p4⟩ := h; exact k a1 a2 a3 a4 p1 p2 p3 p4
theorem x3_7 {t1 : Sort _} {t2 : Sort _} {t3 : Sort _} {c1 c2 c3 c4 c5 c6 c7 : t1 → t2 → t3 → Prop} {g : Prop} (h : ∃ a1 a2 a3, c1 a1 a2 a3 ∧ c2 a1 a2 a3 ∧ c3 a1 a2 a3 ∧ c4 a1 a2 a3 ∧ c5 a1 a2 a3 ∧ c6 a1 a2 a3 ∧ c7 a1 a2 a3) (k : ∀ a1 a2 a3, c1 a1 a2 a3 → c2 a1 a2 a3 → c3 a1 a2 a3 → c4 a1 a2 a3 → c5 a1 a2 a3 → c6 a1 a2 a3 → c7 a1 a2 a3 → g) : g := by obtain ⟨a1, a2, a3, p1, p2, p3, p4, p5, p6, p7⟩ := h; exact k a1 a2 a3 p1 p2 p3 p4 p5 p6 p7
theorem x8_4 {t1 : Sort _} {t2 : Sort _} {t3 : Sort _} {t4 : Sort _} {t5 : Sort _} {t6 : Sort _} {t7 : Sort _} {t8 : Sort _} {c1 c2 c3 c4 : t1 → t2 → t3 → t4 → t5 → t6 → t7 → t8 → Prop} {g : Prop} (h : ∃ a1 a2 a3 a4 a5 a6 a7 a8, c1 a1 a2 a3 a4 a5 a6 a7 a8 ∧ c2 a1 a2 a3 a4 a5 a6 a7 a8 ∧ c3 a1 a2 a3 a4 a5 a6 a7 a8 ∧ c4 a1 a2 a3 a4 a5 a6 a7 a8) (k : ∀ a1 a2 a3 a4 a5 a6 a7 a8, c1 a1 a2 a3 a4 a5 a6 a7 a8 → c2 a1 a2 a3 a4 a5 a6 a7 a8 → c3 a1 a2 a3 a4 a5 a6 a7 a8 → c4 a1 a2 a3 a4 a5 a6 a7 a8 → g) : g := by obtain ⟨a1, a2, a3, a4, a5, a6, a7, a8, p1, p2, p3, p4⟩ := h; exact k a1 a2 a3 a4 a5 a6 a7 a8 p1 p2 p3 p4
theorem y2_2 {t1 : Sort _} {t2 : Sort _} {c1 c2 : t1 → t2 → Prop} {c0 : Prop} {g : Prop} (h : c0 ∧ ∃ a1 a2, c1 a1 a2 ∧ c2 a1 a2) (k : c0 → ∀ a1 a2, c1 a1 a2 → c2 a1 a2 → g) : g := by obtain ⟨z, a1, a2, p1, p2⟩ := h; exact k z a1 a2 p1 p2
theorem y3_1 {t1 : Sort _} {t2 : Sort _} {t3 : Sort _} {c1 : t1 → t2 → t3 → Prop} {c0 : Prop} {g : Prop} (h : c0 ∧ ∃ a1 a2 a3, c1 a1 a2 a3) (k : c0 → ∀ a1 a2 a3, c1 a1 a2 a3 → g) : g := by obtain ⟨z, a1, a2, a3, p1⟩ := h; exact k z a1 a2 a3 p1
theorem y4_4 {t1 : Sort _} {t2 : Sort _} {t3 : Sort _} {t4 : Sort _} {c1 c2 c3 c4 : t1 → t2 → t3 → t4 → Prop} {c0 : Prop} {g : Prop} (h : c0 ∧ ∃ a1 a2 a3 a4, c1 a1 a2 a3 a4 ∧ c2 a1 a2 a3 a4 ∧ c3 a1 a2 a3 a4 ∧ c4 a1 a2 a3 a4) (k : c0 → ∀ a1 a2 a3 a4, c1 a1 a2 a3 a4 → c2 a1 a2 a3 a4 → c3 a1 a2 a3 a4 → c4 a1 a2 a3 a4 → g) : g := by obtain ⟨z, a1, a2, a3, a4, p1, p2, p3, p4⟩ := h; exact k z a1 a2 a3 a4 p1 p2 p3 p4
theorem y6_5 {t1 : Sort _} {t2 : Sort _} {t3 : Sort _} {t4 : Sort _} {t5 : Sort _} {t6 : Sort _} {c1 c2 c3 c4 c5 : t1 → t2 → t3 → t4 → t5 → t6 → Prop} {c0 : Prop} {g : Prop} (h : c0 ∧ ∃ a1 a2 a3 a4 a5 a6, c1 a1 a2 a3 a4 a5 a6 ∧ c2 a1 a2 a3 a4 a5 a6 ∧ c3 a1 a2 a3 a4 a5 a6 ∧ c4 a1 a2 a3 a4 a5 a6 ∧ c5 a1 a2 a3 a4 a5 a6) (k : c0 → ∀ a1 a2 a3 a4 a5 a6, c1 a1 a2 a3 a4 a5 a6 → c2 a1 a2 a3 a4 a5 a6 → c3 a1 a2 a3 a4 a5 a6 → c4 a1 a2 a3 a4 a5 a6 → c5 a1 a2 a3 a4 a5 a6 → g) : g := by obtain ⟨z, a1, a2, a3, a4, a5, a6, p1, p2, p3, p4, p5⟩ := h; exact k z a1 a2 a3 a4 a5 a6 p1 p2 p3 p4 p5
theorem y6_6 {t1 : Sort _} {t2 : Sort _} {t3 : Sort _} {t4 : Sort _} {t5 : Sort _} {t6 : Sort _} {c1 c2 c3 c4 c5 c6 : t1 → t2 → t3 → t4 → t5 → t6 → Prop} {c0 : Prop} {g : Prop} (h : c0 ∧ ∃ a1 a2 a3 a4 a5 a6, c1 a1 a2 a3 a4 a5 a6 ∧ c2 a1 a2 a3 a4 a5 a6 ∧ c3 a1 a2 a3 a4 a5 a6 ∧ c4 a1 a2 a3 a4 a5 a6 ∧ c5 a1 a2 a3 a4 a5 a6 ∧ c6 a1 a2 a3 a4 a5 a6) (k : c0 → ∀ a1 a2 a3 a4 a5 a6, c1 a1 a2 a3 a4 a5 a6 → c2 a1 a2 a3 a4 a5 a6 → c3 a1 a2 a3 a4 a5 a6 → c4 a1 a2 a3 a4 a5 a6 → c5 a1 a2 a3 a4 a5 a6 → c6 a1 a2 a3 a4 a5 a6 → g) : g := by obtain ⟨z, a1, a2, a3, a4, a5, a6, p1, p2, p3, p4, p5, p6⟩ := h; exact k z a1 a2 a3 a4 a5 a6 p1 p2 p3 p4 p5 p6
theorem ev_2 {P : Params} : PySem.W.findIn (Mine.KF P) (PySem.Value.ref Mine.a_Acc) (PySem.Str.ofString "__getattribute__") = Option.some (Option.some (PySem.Value.builtin "list.__getattribute__")) := by kernel_rfl
theorem ev_3 {P : Params} : PySem.W.findIn (Mine.KF P) (PySem.Value.ref Mine.a_Acc) (PySem.Str.ofString "__getitem__") = Option.some (Option.some (PySem.Value.builtin "list.__getitem__")) := by kernel_rfl
theorem ev_4 {P : Params} : PySem.W.findIn (Mine.KF P) (PySem.Value.ref Mine.a_Acc) (PySem.Str.ofString "__init__") = Option.some (Option.some (PySem.Value.ref 149)) := by kernel_rfl
theorem ev_5 {P : Params} : PySem.W.findIn (Mine.KF P) (PySem.Value.ref Mine.a_Acc) (PySem.Str.ofString "__iter__") = Option.some (Option.some (PySem.Value.builtin "list.__iter__")) := by kernel_rfl
theorem ev_6 {P : Params} : PySem.W.findIn (Mine.KF P) (PySem.Value.ref Mine.a_Acc) (PySem.Str.ofString "__len__") = Option.some (Option.some (PySem.Value.ref 179)) := by kernel_rfl
theorem ev_7 {P : Params} : PySem.W.findIn (Mine.KF P) (PySem.Value.ref Mine.a_Acc) (PySem.Str.ofString "__setattr__") = Option.some (Option.some (PySem.Value.builtin "object.__setattr__")) := by kernel_rfl
theorem ev_8 {P : Params} : PySem.W.findIn (Mine.KF P) (PySem.Value.ref Mine.a_Acc) (PySem.Str.ofString "__setitem__") = Option.some (Option.some (PySem.Value.builtin "list.__setitem__")) := by kernel_rfl
theorem ev_9 {P : Params} : PySem.W.findIn (Mine.KF P) (PySem.Value.ref Mine.a_Acc) (PySem.Str.ofString "__str__") = Option.some (Option.some (PySem.Value.ref 186)) := by kernel_rfl
theorem ev_11 {P : Params} : PySem.W.findIn (Mine.KF P) (PySem.Value.ref Mine.a_Acc) (PySem.Str.ofString "append") = Option.some (Option.some (PySem.Value.builtin "list.append")) := by kernel_rfl
theorem ev_12 {P : Params} : PySem.W.findIn (Mine.KF P) (PySem.Value.ref Mine.a_Acc) (PySem.Str.ofString "is_onlyws") = Option.some (Option.some (PySem.Value.ref 201)) := by kernel_rfl
theorem ev_13 {P : Params} : PySem.W.findIn (Mine.KF P) (PySem.Value.ref Mine.a_Acc) (PySem.Str.ofString "part_count") = Option.some (Option.some (PySem.Value.ref 209)) := by kernel_rfl
theorem ev_14 {P : Params} : PySem.W.findIn (Mine.KF P) (PySem.Value.ref Mine.a_Acc) (PySem.Str.ofString "pop") = Option.some (Option.some (PySem.Value.ref 172)) := by kernel_rfl
theorem ev_15 {P : Params} : PySem.W.findIn (Mine.KF P) (PySem.Value.ref Mine.a_Acc) (PySem.Str.ofString "pop_from") = Option.some (Option.some (PySem.Value.ref 164)) := by kernel_rfl
theorem ev_16 {P : Params} : PySem.W.findIn (Mine.KF P) (PySem.Value.ref Mine.a_Acc) (PySem.Str.ofString "push") = Option.some (Option.some (PySem.Value.ref 156)) := by kernel_rfl
theorem ev_17 {P : Params} : PySem.W.findIn (Mine.KF P) (PySem.Value.ref Mine.a_Acc) (PySem.Str.ofString "push") = Option.some (Option.some (PySem.Value.ref Mine.a_Acc_push)) := by kernel_rfl
theorem ev_18 {P : Params} : PySem.W.findIn (Mine.KF P) (PySem.Value.ref Mine.a_Acc) (PySem.Str.ofString "reset") = Option.some (Option.some (PySem.Value.ref 194)) := by kernel_rfl
theorem ev_20 {P : Params} : PySem.W.findIn (Mine.KF P) (PySem.Value.ref Mine.a_VF) (PySem.Str.ofString "__getattribute__") = Option.some (Option.some (PySem.Value.builtin "object.__getattribute__")) := by kernel_rfl
theorem ev_21 {P : Params} : PySem.W.findIn (Mine.KF P) (PySem.Value.ref Mine.a_VF) (PySem.Str.ofString "__init__") = Option.some (Option.some (PySem.Value.ref 69)) := by kernel_rfl
theorem ev_22 {P : Params} : PySem.W.findIn (Mine.KF P) (PySem.Value.ref Mine.a_VF) (PySem.Str.ofString "__init__") = Option.some (Option.some (PySem.Value.ref Mine.a_VF_dinit)) := by kernel_rfl
theorem ev_23 {P : Params} : PySem.W.findIn (Mine.KF P) (PySem.Value.ref Mine.a_VF) (PySem.Str.ofString "__setattr__") = Option.some (Option.some (PySem.Value.builtin "object.__setattr__")) := by kernel_rfl
theorem ev_24 {P : Params} : PySem.W.findIn (Mine.KF P) (PySem.Value.ref Mine.a_VF) (PySem.Str.ofString "_append_chunk") = Option.some (Option.some (PySem.Value.ref 125)) := by kernel_rfl
theorem ev_31 {P : Params} : PySem.W.findIn (Mine.KF P) (PySem.Value.ref Mine.a_VF) (PySem.Str.ofString "_str") = Option.some (Option.some (PySem.Value.ref 76)) := by kernel_rfl
theorem ev_32 {P : Params} : PySem.W.findIn (Mine.KF P) (PySem.Value.ref Mine.a_VF) (PySem.Str.ofString "newline") = Option.some (Option.some (PySem.Value.ref 90)) := by kernel_rfl
theorem ev_33 {P : Params} : PySem.W.findIn (Mine.KF P) (PySem.Value.type "list_iterator") (PySem.Str.ofString "__next__") = Option.some (Option.some (PySem.Value.builtin "list_iterator.__next__")) := by kernel_rfl
theorem ev_34 {P : Params} : PySem.W.findIn (Mine.KF P) (PySem.Value.type "method_descriptor") (PySem.Str.ofString "__get__") = Option.some (Option.some (PySem.Value.builtin "method_descriptor.__get__")) := by kernel_rfl
theorem ev_36 {P : Params} : PySem.W.findIn (Mine.KF P) (PySem.Value.type "re.Pattern") (PySem.Str.ofString "__getattribute__") = Option.some (Option.some (PySem.Value.builtin "object.__getattribute__")) := by kernel_rfl
theorem ev_37 {P : Params} : PySem.W.findIn (Mine.KF P) (PySem.Value.type "re.Pattern") (PySem.Str.ofString "sub") = Option.some (Option.some (PySem.Value.builtin "re.Pattern.sub")) := by kernel_rfl
theorem ev_39 {P : Params} : PySem.W.findIn (Mine.KF P) (PySem.Value.type "wrapper_descriptor") (PySem.Str.ofString "__get__") = Option.some (Option.some (PySem.Value.builtin "wrapper_descriptor.__get__")) := by kernel_rfl
theorem ev_41 {P : Params} : PySem.W.nsIn (Mine.KF P) PySem.mainGlobals (PySem.Str.ofString "CRLF") = Option.some (Option.some (PySem.Value.str (PySem.Str.ofString "\x0d\n") 349)) := by kernel_rfl
theorem ev_42 {P : Params} : PySem.W.nsIn (Mine.KF P) PySem.mainGlobals (PySem.Str.ofString "EMPTYSTRING") = Option.some (Option.some (PySem.Value.str (PySem.Str.ofString "") 362)) := by kernel_rfl
theorem ev_43 {P : Params} : PySem.W.nsIn (Mine.KF P) PySem.mainGlobals (PySem.Str.ofString "_Accumulator") = Option.some (Option.some (PySem.Value.ref 212)) := by kernel_rfl
theorem ev_44 {P : Params} : PySem.W.nsIn (Mine.KF P) PySem.mainGlobals (PySem.Str.ofString "_ValueFormatter") = Option.some (Option.some (PySem.Value.ref 128)) := by kernel_rfl
theorem ev_45 {P : Params} : PySem.W.nsIn (Mine.KF P) PySem.mainGlobals (PySem.Str.ofString "_check_parenthesis") = Option.some (Option.some (PySem.Value.ref 237)) := by kernel_rfl
theorem ev_46 {P : Params} : PySem.W.nsIn (Mine.KF P) PySem.mainGlobals (PySem.Str.ofString "_iter_escaped_chars") = Option.some (Option.some (PySem.Value.ref 223)) := by kernel_rfl
theorem ev_51 {P : Params} : PySem.W.nsIn (Mine.KF P) PySem.mainGlobals (PySem.Str.ofString "_strip_quoted_realnames") = Option.some (Option.some (PySem.Value.ref 230)) := by kernel_rfl
theorem ev_52 {P : Params} : PySem.W.nsIn (Mine.KF P) PySem.mainGlobals (PySem.Str.ofString "_twin_re_1") = Option.some (Option.some (PySem.Value.ref 43)) := by kernel_rfl
theorem ev_53 {P : Params} : PySem.W.nsIn (Mine.KF P) PySem.mainGlobals (PySem.Str.ofString "_twin_re_2") = Option.some (Option.some (PySem.Value.ref 48)) := by kernel_rfl
theorem ev_60 {P : Params} : PySem.W.nsIn (Mine.KF P) PySem.mainGlobals (PySem.Str.ofString "quotedata") = Option.some (Option.some (PySem.Value.ref 55)) := by kernel_rfl
theorem ev_66 {P : Params} : PySem.W.ownIn (Mine.KF P) (PySem.Str.ofString "__init__") (PySem.Value.type "list") = Option.some (Option.some (PySem.Value.builtin "list.__init__")) := by kernel_rfl
theorem ev_67 {P : Params} : PySem.W.ownIn (Mine.KF P) (PySem.Str.ofString "__len__") (PySem.Value.type "list") = Option.some (Option.some (PySem.Value.builtin "list.__len__")) := by kernel_rfl
theorem ev_68 {P : Params} : PySem.W.ownIn (Mine.KF P) (PySem.Str.ofString "pop") (PySem.Value.type "list") = Option.some (Option.some (PySem.Value.builtin "list.pop")) := by kernel_rfl
local macro_rules | `(tactic| ktn_no "ev_findIn") => `(tactic| with_reducible first | exact ev_2 | exact ev_3 | exact ev_4 | exact ev_5 | exact ev_6 | exact ev_7 | exact ev_8 | exact ev_9 | exact ev_11 | exact ev_12 | exact ev_13 | exact ev_14 | exact ev_15 | exact ev_16 | exact ev_17 | exact ev_18 | exact ev_20 | exact ev_21 | exact ev_22 | exact ev_23 | exact ev_24 | exact ev_31 | exact ev_32 | exact ev_33 | exact ev_34 | exact ev_36 | exact ev_37 | exact ev_39)
theorem ev_100 {P : Params} : PySem.W.nsIn (Mine.KF P) PySem.mainGlobals (PySem.Str.ofString "_law_drawn") = Option.some (Option.some (PySem.Value.ref 244)) := by kernel_rfl
theorem ev_101 {P : Params} : PySem.W.nsIn (Mine.KF P) PySem.mainGlobals (PySem.Str.ofString "_law_words") = Option.some (Option.some (PySem.Value.ref 249)) := by kernel_rfl
theorem ev_102 {P : Params} : PySem.W.nsIn (Mine.KF P) PySem.mainGlobals (PySem.Str.ofString "_law_sizes") = Option.some (Option.some (PySem.Value.ref 254)) := by kernel_rfl
local macro_rules | `(tactic| ktn_no "ev_nsIn") => `(tactic| with_reducible first | exact ev_41 | exact ev_42 | exact ev_43 | exact ev_44 | exact ev_45 | exact ev_46 | exact ev_51 | exact ev_52 | exact ev_53 | exact ev_60 | exact ev_100 | exact ev_101 | exact ev_102)
local macro_rules | `(tactic| ktn_no "ev_ownIn") => `(tactic| with_reducible first | exact ev_66 | exact ev_67 | exact ev_68)
theorem ev_is {α : Type} {a : α} (b : α) (h : a = b) : a = b := h
theorem ev_sp1 {P : Params} {i : Int} {t : Tok} : specialIn (KF P) (.int i t) (PySem.Str.ofString "__index__") = some (some (.builtin "int.__index__")) := by kernel_rfl
theorem ev_sp2 {P : Params} {x : PySem.Str} {t : Tok} : specialIn (KF P) (.str x t) (PySem.Str.ofString "__call__") = some none := by kernel_rfl
theorem ev_sp3 {P : Params} : specialIn (KF P) (.ref a_Acc) (PySem.Str.ofString "__call__") = some (some (.builtin "type.__call__")) := by kernel_rfl
theorem ev_sp4 {P : Params} : specialIn (KF P) (.ref a_Acc_push) (PySem.Str.ofString "__get__") = some (some (.builtin "function.__get__")) := by kernel_rfl
theorem ev_mro {P : Params} : Option.map (fun x => x.mro) (clsIn (KF P) a_Acc) = some [Value.ref a_Acc, Value.type "list", Value.type "object"] := by kernel_rfl
theorem ev_n {α : Type} {a : Option (Option α)} (h : a = some none) : a = some none := h
theorem ev_t {a : Option Bool} (h : a = some true) : a = some true := h
theorem ev_f {a : Option Bool} (h : a = some false) : a = some false := h
theorem ev_ty1 {a : Option Value} (h : a = some (.type "function")) : a = some (.type "function") := h
theorem ev_ty2 {a : Option Value} (h : a = some (.type "wrapper_descriptor")) : a = some (.type "wrapper_descriptor") := h
theorem ev_ty3 {a : Option Value} (h : a = some (.type "method_descriptor")) : a = some (.type "method_descriptor") := h
theorem ev_ty4 {a : Option Value} (h : a = some (.type "type")) : a = some (.type "type") := h
local macro_rules | `(tactic| ktn_no "k_ev") => `(tactic| first
  | kernel_rfl!
  | exact ev_n (by kernel_rfl!) | exact ev_t (by kernel_rfl!) | exact ev_f (by kernel_rfl!) | exact ev_ty1 (by kernel_rfl!) | exact ev_ty2 (by kernel_rfl!) | exact ev_ty3 (by kernel_rfl!) | exact ev_ty4 (by kernel_rfl!)
  | ktn_no "ev_findIn" | ktn_no "ev_nsIn" | ktn_no "ev_ownIn"
  | ((with_reducible show specialIn _ _ _ = _); k_dflt (first | exact ev_sp3 | exact ev_sp4 | exact ev_sp2 | exact ev_sp1))
  | (with_reducible exact ev_mro)
  | ((fail_if_success (with_reducible first | show findIn _ _ _ = _ | show typeIn _ _ = _ | show nsIn _ _ _ = _ | show ownIn _ _ _ = _)); k_dflt rfl))
local macro_rules | `(tactic| ktn_no "no_call") => `(tactic| ((with_reducible show wpAny _ _ _ _ _ _); fail_if_success (with_reducible show wpAny _ _ (call _ _ _) _ _ _)))
local macro_rules | `(tactic| ktn_no "ast") => `(tactic| ((with_reducible show wpAny _ _ _ _ _ _); conv => arg 3; arg 1; whnf))
local macro_rules | `(tactic| ktn_no "ast_at") => `(tactic| ((with_reducible show _root_.PySem.wpAt _ _ _ _ _ _ _); conv => arg 4; arg 1; whnf))
local macro_rules | `(tactic| ktn_no "ast_seg") => `(tactic| (conv in execs _ _ => arg 1; whnf))
theorem om_lt {a b c : Nat} (h : a < b) (k : Nat.ble b c = true) : a < c := Nat.lt_of_lt_of_le h (Nat.le_of_ble_eq_true k)
theorem om_le {a b c : Nat} (h : a ≤ b) (k : Nat.ble b c = true) : a ≤ c := Nat.le_trans h (Nat.le_of_ble_eq_true k)
theorem om_eq {a b c : Nat} (h : a < b) (k : c = b) : a < c := k ▸ h
theorem om_ad {a b c : Nat} (k : Nat.ble b c = true) : a + b ≤ a + c := Nat.add_le_add_left (Nat.le_of_ble_eq_true k) _
local macro_rules | `(tactic| ktn_no "le") => `(tactic| first | (with_reducible exact Nat.le_add_right _ _) | exact om_ad rfl | exact Nat.le.intro rfl | exact Nat.le_of_ble_eq_true rfl | lia | omega)
local macro_rules | `(tactic| ktn_no "om") => `(tactic| first | exact Nat.le_of_ble_eq_true rfl | (with_reducible first | assumption | exact Nat.le_refl _ | exact Nat.le_add_right _ _) | decide | exact om_ad rfl | exact om_lt (by assumption) rfl | exact om_le (by assumption) rfl | exact om_eq (by assumption) (by assumption) | lia | omega)

noncomputable def Tab (b : Addr) : Prop := b = T1 ∨ b = T2
structure TabOk (h : Heap) : Prop where
  a : ∃ ps, h.IsCode C1 T1 ps ∧ h.TableAt C1 T1 ps
  b : ∃ ps, h.IsCode C2 T2 ps ∧ h.TableAt C2 T2 ps
structure WfB (w : World) (B : Heap) : Prop where
  k : (KF w.params).In B
  g : ∃ mg, B.Ns mainGlobals mg
  b : ∃ mb, B.Ns builtinsNs mb ∧ ∀ x : PySem.Str, x ≠ "__name__" → mb x = bootBuiltins x
  nl : B.NoLimit
  bm : ∃ mg bm ob, B.Ns mainGlobals mg ∧ mg "__builtins__" = some (.ref bm) ∧ bm ≠ builtinsNs ∧ B.get? bm = some ob ∧ ob.cls = .type "module" ∧ ob.dict = some builtinsNs ∧ ob.data = .plain
  sz : szTop ≤ B.objs.size
  t1 : B.get? T1 = none
  t2 : B.get? T2 = none
structure Rel (s₀ s : Shared) : Prop where
  os : s.os = s₀.os
  gens : ∀ (k : Nat) (x : GenState), s₀.gens[k]? = some x → s.gens[k]? = some x
  bare : (∀ x ∈ s₀.gens, x.bare = true) → ∀ x ∈ s.gens, x.bare = true
  tg : ∀ t, Tab t → ∀ ps, s₀.heap.get? t = some (tableObj ps) → ∃ more, s.heap.get? t = some (tableObj (ps ++ more))
  sz : True
theorem Rel.refl (s : Shared) : Rel s s := ⟨rfl, fun _ _ e => e, id, fun _ _ ps e => ⟨#[], by simpa using e⟩, trivial⟩
theorem Rel.trans {a b c : Shared} (x : Rel a b) (y : Rel b c) : Rel a c :=
  ⟨y.os.trans x.os, fun k g e => y.gens k g (x.gens k g e), fun h => y.bare (x.bare h), fun t ht ps e => by
    obtain ⟨m1, e1⟩ := x.tg t ht ps e
    obtain ⟨m2, e2⟩ := y.tg t ht _ e1
    exact ⟨m1 ++ m2, by rw [← Array.append_assoc]; exact e2⟩, trivial⟩
/-- a heap change that leaves the tables -/
theorem Rel.heap {s₀ s : Shared} (x : Rel s₀ s) {h' : Heap} {tk : Nat} (hz : s.heap.objs.size ≤ h'.objs.size) (ht : ∀ t, Tab t → ∀ o, s.heap.get? t = some o → h'.get? t = some o) : Rel s₀ { s with heap := h', toks := tk } :=
  ⟨x.os, x.gens, x.bare, fun t q ps e => by obtain ⟨m, e'⟩ := x.tg t q ps e; exact ⟨m, ht t q _ e'⟩, (let _ := hz; trivial)⟩
theorem TabOk.keeps {h h' : Heap} (x : TabOk h) (k : ∀ b o, h.get? b = some o → h'.get? b = some o) : TabOk h' :=
  ⟨let ⟨ps, a, b⟩ := x.a; ⟨ps, a.keeps k, b.keeps k⟩, let ⟨ps, a, b⟩ := x.b; ⟨ps, a.keeps k, b.keeps k⟩⟩
theorem TabOk.same {h h' : Heap} {a : Addr} (x : TabOk h) (hs : Heap.SameBut a h h') (ha : szTop ≤ a) : TabOk h' := by
  have n : ∀ c : Addr, c < szTop → c ≠ a := fun c hc e => by subst e; exact absurd hc (Nat.not_lt.mpr ha)
  exact ⟨let ⟨ps, p, q⟩ := x.a; ⟨ps, p.sameBut hs (n _ (by decide)) (n _ (by decide)), q.sameBut hs (n _ (by decide)) (n _ (by decide))⟩,
    let ⟨ps, p, q⟩ := x.b; ⟨ps, p.sameBut hs (n _ (by decide)) (n _ (by decide)), q.sameBut hs (n _ (by decide)) (n _ (by decide))⟩⟩

structure Fm (w : World) (B : Heap) (L : Addr) (cl : List (PySem.Str × Addr)) (s₀ : Shared) (m : PySem.Str → Option Value) (cm : PySem.Str → Option Value) (news : List (Addr × Obj)) (s : Shared) : Prop where
  wf : WfB w B
  ns : s.heap.Ns L m
  keep : ∀ b o, B.get? b = some o → s.heap.get? b = some o
  above : B.get? L = none ∧ szTop ≤ L
  nw : ∀ p ∈ news, s.heap.get? p.1 = some p.2 ∧ p.1 ≠ L ∧ B.get? p.1 = none ∧ szTop ≤ p.1
  nd : (news.map (·.1)).Nodup
  ce : ∀ n c, cl.lookup n = some c → s.heap.IsCell c (cm n)
  cd : ∀ n c, cl.lookup n = some c → c ≠ L ∧ c ∉ news.map (·.1) ∧ ¬ Tab c
  cp : ∀ n n' c, cl.lookup n = some c → cl.lookup n' = some c → n = n'
  tb : TabOk s.heap
  rl : Rel s₀ s

section
variable {w : World} {B : Heap} {L : Addr} {m : PySem.Str → Option Value} {cl : List (PySem.Str × Addr)} {cm : PySem.Str → Option Value} {news : List (Addr × Obj)} {s₀ s : Shared}
theorem Fm.szL (F : Fm w B L cl s₀ m cm news s) : szTop ≤ L := F.above.2
theorem Fm.News (F : Fm w B L cl s₀ m cm news s) : News B L s.heap news := fun p hp => let ⟨a, b, c, _⟩ := F.nw p hp; ⟨a, b, c⟩
theorem Fm.K (F : Fm w B L cl s₀ m cm news s) : (KF w.params).In s.heap := fun a o e => F.keep a o (F.wf.k a o e)
theorem Fm.at (F : Fm w B L cl s₀ m cm news s) (i : Nat) {x : Addr} {o : Obj} (e : news[i]? = some (x, o)) : s.heap.get? x = some o := (F.nw _ (List.mem_of_getElem? e)).1
theorem tab_lt {t : Addr} (h : Tab t) : t < szTop := by rcases h with rfl | rfl <;> decide
/-- any change that keeps all that stands -/
theorem Fm.grow (F : Fm w B L cl s₀ m cm news s) {h' : Heap} {tk : Nat} (k : ∀ b o, s.heap.get? b = some o → h'.get? b = some o) (hz : s.heap.objs.size ≤ h'.objs.size) : Fm w B L cl s₀ m cm news { s with heap := h', toks := tk } where
  wf := F.wf
  ns := F.ns.keeps k
  keep := fun b o e => k b o (F.keep b o e)
  above := F.above
  nw := fun p hp => let ⟨a, r⟩ := F.nw p hp; ⟨k _ _ a, r⟩
  nd := F.nd
  ce := fun n c e => (F.ce n c e).keeps k
  cd := F.cd
  cp := F.cp
  tb := F.tb.keeps k
  rl := F.rl.heap hz fun t _ o e => k t o e
theorem Fm.withD {h : Heap} {g : Array GenState} {d d₀ : Drawn} {tk tk₀ : Nat} {os : OsState} (F : Fm w B L cl s₀ m cm news ⟨h, g, d₀, tk₀, os⟩) : Fm w B L cl s₀ m cm news ⟨h, g, d, tk, os⟩ := ⟨F.wf, F.ns, F.keep, F.above, F.nw, F.nd, F.ce, F.cd, F.cp, F.tb, ⟨F.rl.os, F.rl.gens, F.rl.bare, F.rl.tg, F.rl.sz⟩⟩
theorem Fm.toks (F : Fm w B L cl s₀ m cm news s) (tk : Nat) : Fm w B L cl s₀ m cm news { s with toks := tk } := F.grow (h' := s.heap) (fun _ _ e => e) (Nat.le_refl _)
/-- a new object -/
theorem Fm.push (F : Fm w B L cl s₀ m cm news s) (o : Obj) (hf : o.isFreed = false := by rfl) {tk : Nat} : Fm w B L cl s₀ m cm ((s.heap.objs.size, o) :: news) { s with heap := s.heap.push o, toks := tk } := by
  have G := F.grow (h' := s.heap.push o) (tk := tk) (fun b ob e => Heap.get?_push_of_some _ e) (by rw [Heap.size_push]; exact Nat.le_succ _)
  have lt : ∀ {a ob}, s.heap.get? a = some ob → a ≠ s.heap.objs.size := fun e q => absurd (Heap.lt_size e) (by rw [q]; exact Nat.lt_irrefl _)
  (refine x3_2 (F.ns) ?_; intro oL es ep hL _)
  refine { G with nw := fun p hp => ?_, nd := ?_, cd := fun n c hm => ?_ }
  · rcases List.mem_cons.mp hp with rfl | hp
    · refine ⟨Heap.get?_push_size _ hf, fun e => lt hL e.symm, ?_, Nat.le_trans F.szL (Nat.le_of_lt (Heap.lt_size hL))⟩
      cases q : B.get? s.heap.objs.size with
      | none => rfl
      | some o' => exact absurd rfl (lt (F.keep _ _ q))
    · exact G.nw p hp
  · refine List.nodup_cons.mpr ⟨fun q => ?_, F.nd⟩
    (refine x1_2 (List.mem_map.mp q) ?_; intro p hp e)
    exact lt (F.nw p hp).1 e
  · (refine x0_3 (F.cd n c hm) ?_; intro a b c')
    refine ⟨a, fun q => ?_, c'⟩
    rcases List.mem_cons.mp q with e | q
    · (refine x1_2 (F.ce n c hm) ?_; intro oc hoc _)
      exact lt hoc e
    · exact b q
/-- a tracked object is turned -/
theorem Fm.set (F : Fm w B L cl s₀ m cm news s) {i : Nat} {x : Addr} {o o' : Obj} (hi : news[i]? = some (x, o)) {h' : Heap} (hs : Heap.SameBut x s.heap h') (ho : h'.get? x = some o') {tk : Nat} : Fm w B L cl s₀ m cm (news.set i (x, o')) { s with heap := h', toks := tk } := by
  have hm := List.mem_of_getElem? hi
  (refine x0_4 (F.nw _ hm) ?_; intro hx hxL hxB hxs)
  have hlt : i < news.length := (List.getElem?_eq_some_iff.mp hi).1
  have nt : ∀ t, Tab t → t ≠ x := fun t ht e => absurd (tab_lt ht) (by rw [e]; exact Nat.not_lt.mpr hxs)
  have hmap : (news.set i (x, o')).map (·.1) = news.map (·.1) := by
    rw [List.map_set]
    apply List.ext_getElem? 
    intro j
    rw [List.getElem?_set]
    split
    · rename_i hj
      subst hj
      rw [List.length_map, if_pos hlt, List.getElem?_map, hi]; rfl
    · rfl
  have hne : ∀ (j : Nat) (p : Addr × Obj), j ≠ i → news[j]? = some p → p.1 ≠ x := fun j p hj hp e => by
    have h1 : (news.map (·.1))[j]? = some x := by rw [List.getElem?_map, hp, ← e]; rfl
    have h2 : (news.map (·.1))[i]? = some x := by rw [List.getElem?_map, hi]; rfl
    have hjl : j < (news.map (·.1)).length := (List.getElem?_eq_some_iff.mp h1).1
    exact hj ((List.getElem?_inj hjl F.nd).mp (h1.trans h2.symm))
  refine { wf := F.wf, ns := F.ns.sameBut hs hxL.symm, keep := fun b o e => (hs.2 b (fun q => by rw [q, hxB] at e; cases e)).trans (F.keep b o e), above := F.above, nw := fun p hp => ?_, nd := by rw [hmap]; exact F.nd, ce := fun n c e => (F.ce n c e).sameBut hs (fun q => (F.cd n c e).2.1 (by rw [q]; exact List.mem_map_of_mem hm)), cd := fun n c e => by rw [hmap]; exact F.cd n c e, cp := F.cp, tb := F.tb.same hs hxs, rl := F.rl.heap (Nat.le_of_eq hs.1.symm) fun t ht o e => (hs.2 t (nt t ht)).trans e }
  obtain ⟨j, hj⟩ := List.getElem?_of_mem hp
  rw [List.getElem?_set] at hj
  split at hj
  · cases hj
    exact ⟨ho, hxL, hxB, hxs⟩
  · rename_i hij
    obtain ⟨a, b⟩ := F.nw p (List.mem_of_getElem? hj)
    exact ⟨(hs.2 _ (hne j p (Ne.symm hij) hj)).trans a, b⟩
/-- a local is stored -/
theorem Fm.store (F : Fm w B L cl s₀ m cm news s) {h' : Heap} {m' : PySem.Str → Option Value} (hn : h'.Ns L m') (hs : Heap.SameBut L s.heap h') {tk : Nat} : Fm w B L cl s₀ m' cm news { s with heap := h', toks := tk } := by
  have hsz := F.szL
  refine { wf := F.wf, ns := hn, keep := fun b o e => (hs.2 b (fun q => by rw [q, F.above.1] at e; cases e)).trans (F.keep b o e), above := F.above, nw := fun p hp => ?_, nd := F.nd, ce := fun n c e => (F.ce n c e).sameBut hs (F.cd n c e).1, cd := F.cd, cp := F.cp, tb := F.tb.same hs hsz, rl := F.rl.heap (Nat.le_of_eq hs.1.symm) fun t ht o e => (hs.2 t fun q => absurd (tab_lt ht) (by rw [q]; exact Nat.not_lt.mpr hsz)).trans e }
  (refine x0_3 (F.nw p hp) ?_; intro a b c)
  exact ⟨(hs.2 _ b).trans a, b, c⟩
/-- a cell is stored -/
theorem Fm.storeC (F : Fm w B L cl s₀ m cm news s) {h' : Heap} {n : PySem.Str} {c : Addr} {v : Value} (hc : cl.lookup n = some c) (hB : B.get? c = none) (hv : h'.IsCell c (some v)) (hs : Heap.SameBut c s.heap h') (hz : szTop ≤ c) {tk : Nat} :
    Fm w B L cl s₀ m (fun y => if y = n then some v else cm y) news { s with heap := h', toks := tk } := by
  (refine x0_3 (F.cd n c hc) ?_; intro cL cn cT)
  refine { wf := F.wf, ns := F.ns.sameBut hs cL.symm, keep := fun b o e => (hs.2 b (fun q => by rw [q, hB] at e; cases e)).trans (F.keep b o e), above := F.above, nw := fun p hp => ?_, nd := F.nd, ce := fun n' c' e => ?_, cd := F.cd, cp := F.cp, tb := F.tb.same hs hz, rl := F.rl.heap (Nat.le_of_eq hs.1.symm) fun t ht o e => (hs.2 t fun q => cT (q ▸ ht)).trans e }
  · obtain ⟨a, b⟩ := F.nw p hp
    exact ⟨(hs.2 _ (fun q => cn (by rw [← q]; exact List.mem_map_of_mem hp))).trans a, b⟩
  · by_cases hn : n' = n
    · subst hn
      rw [hc] at e; cases e
      simpa using hv
    · rw [if_neg hn]
      exact (F.ce n' c' e).sameBut hs fun q => hn (F.cp n' n c (q ▸ e) hc)
/-- any change that leaves all but the tables, which may grow -/
theorem Fm.moved (F : Fm w B L cl s₀ m cm news s) {s' : Shared} (k : ∀ b o, ¬ Tab b → s.heap.get? b = some o → s'.heap.get? b = some o) (tb : TabOk s'.heap) (rl : Rel s s') : Fm w B L cl s₀ m cm news s' where
  wf := F.wf
  ns := by
    (refine x3_2 (F.ns) ?_; intro oL es ep hL r)
    exact ⟨oL, es, ep, k _ _ (fun t => absurd (tab_lt t) (Nat.not_lt.mpr F.szL)) hL, r⟩
  keep := fun b o e => k b o (fun t => by rcases t with rfl | rfl; (rw [F.wf.t1] at e; cases e); (rw [F.wf.t2] at e; cases e)) (F.keep b o e)
  above := F.above
  nw := fun p hp => let ⟨a, b, c, d⟩ := F.nw p hp; ⟨k _ _ (fun t => absurd (tab_lt t) (Nat.not_lt.mpr d)) a, b, c, d⟩
  nd := F.nd
  ce := fun n c e => let ⟨oc, hoc, hd⟩ := F.ce n c e; ⟨oc, k _ _ (F.cd n c e).2.2 hoc, hd⟩
  cd := F.cd
  cp := F.cp
  tb := tb
  rl := F.rl.trans rl
theorem Fm.sub (F : Fm w B L cl s₀ m cm news s) {news' : List (Addr × Obj)} (h : news'.Sublist news) : Fm w B L cl s₀ m cm news' s :=
  { F with nw := fun p hp => F.nw p (h.subset hp), nd := F.nd.sublist (h.map _), cd := fun n c e => let ⟨a, b, d⟩ := F.cd n c e; ⟨a, fun q => b ((h.map _).subset q), d⟩ }
theorem Fm.drop (F : Fm w B L cl s₀ m cm news s) (n : Nat) : Fm w B L cl s₀ m cm (news.drop n) s := F.sub (List.drop_sublist n news)
theorem Fm.erase (F : Fm w B L cl s₀ m cm news s) (i : Nat) : Fm w B L cl s₀ m cm (news.eraseIdx i) s := F.sub (List.eraseIdx_sublist news i)

/-- what a callee may lean on: all but the tables and the tracked objects -/
noncomputable def under (s : Shared) (news : List (Addr × Obj)) : Heap := hideAll s.heap (T1 :: T2 :: news.map (·.1))
theorem Fm.under_keep (F : Fm w B L cl s₀ m cm news s) : ∀ b o, B.get? b = some o → (under s news).get? b = some o := fun b o e => by
  refine hideAll_get _ (F.keep b o e) fun q => ?_
  rcases List.mem_cons.mp q with q | q
  · rw [q, F.wf.t1] at e; cases e
  rcases List.mem_cons.mp q with q | q
  · rw [q, F.wf.t2] at e; cases e
  (refine x1_2 (List.mem_map.mp q) ?_; intro p hp e')
  have := (F.nw p hp).2.2.1
  rw [e', e] at this; cases this
theorem Fm.wf_under (F : Fm w B L cl s₀ m cm news s) : WfB w (under s news) where
  k := fun a o e => F.under_keep a o (F.wf.k a o e)
  g := let ⟨mg, h⟩ := F.wf.g; ⟨mg, h.keeps F.under_keep⟩
  b := let ⟨mb, h, r⟩ := F.wf.b; ⟨mb, h.keeps F.under_keep, r⟩
  nl := F.wf.nl.keeps F.under_keep
  bm := let ⟨mg, bm, ob, a, b, c, d, e⟩ := F.wf.bm; ⟨mg, bm, ob, a.keeps F.under_keep, b, c, F.under_keep _ _ d, e⟩
  sz := by
    show szTop ≤ (hideAll s.heap _).objs.size
    rw [hideAll_size]
    (refine x3_2 (F.ns) ?_; intro oL es ep hL _)
    exact Nat.le_trans F.szL (Nat.le_of_lt (Heap.lt_size hL))
  t1 := hideAll_none _ (.head _)
  t2 := hideAll_none _ (.tail _ (.head _))
theorem tab_ne {t b : Addr} (h : Tab t) (hb : szTop ≤ b) : b ≠ t := fun e => absurd (tab_lt h) (by rw [← e]; exact Nat.not_lt.mpr hb)
theorem Fm.under_L (F : Fm w B L cl s₀ m cm news s) {o : Obj} (e : s.heap.get? L = some o) : (under s news).get? L = some o := by
  refine hideAll_get _ e fun q => ?_
  rcases List.mem_cons.mp q with q | q
  · exact tab_ne (.inl rfl) F.szL q
  rcases List.mem_cons.mp q with q | q
  · exact tab_ne (.inr rfl) F.szL q
  (refine x1_2 (List.mem_map.mp q) ?_; intro p hp e')
  exact (F.nw p hp).2.1 e'
theorem Fm.under_cell (F : Fm w B L cl s₀ m cm news s) {n : PySem.Str} {c : Addr} (hc : cl.lookup n = some c) {o : Obj} (e : s.heap.get? c = some o) : (under s news).get? c = some o := by
  (refine x0_3 (F.cd n c hc) ?_; intro _ cn cT)
  refine hideAll_get _ e fun q => ?_
  rcases List.mem_cons.mp q with q | q
  · exact cT (.inl q)
  rcases List.mem_cons.mp q with q | q
  · exact cT (.inr q)
  · exact cn q
/-- back from a callee -/
theorem Fm.leave (F : Fm w B L cl s₀ m cm news s) {L' : Addr} {m' cm' : PySem.Str → Option Value} {cl' : List (PySem.Str × Addr)} {news' : List (Addr × Obj)} {s' : Shared} (G : Fm w (under s news) L' cl' s m' cm' news' s') : Fm w B L cl s₀ m cm news' s' := by
  (refine x3_2 (F.ns) ?_; intro oL es ep hL r)
  have kL := F.under_L hL
  refine { wf := F.wf, ns := ⟨oL, es, ep, G.keep _ _ kL, r⟩, keep := fun b o e => G.keep b o (F.under_keep b o e), above := F.above, nw := fun p hp => ?_, nd := G.nd, ce := fun n c e => ?_, cd := fun n c e => ?_, cp := F.cp, tb := G.tb, rl := F.rl.trans G.rl }
  · (refine x0_4 (G.nw p hp) ?_; intro a b c d)
    refine ⟨a, fun q => ?_, ?_, d⟩
    · rw [q, kL] at c; cases c
    · cases q : B.get? p.1 with
      | none => rfl
      | some o => rw [F.under_keep _ _ q] at c; cases c
  · (refine x1_2 (F.ce n c e) ?_; intro oc hoc hd)
    exact ⟨oc, G.keep _ _ (F.under_cell e hoc), hd⟩
  · (refine x1_2 (F.ce n c e) ?_; intro oc hoc hd)
    refine ⟨(F.cd n c e).1, fun q => ?_, (F.cd n c e).2.2⟩
    (refine x1_2 (List.mem_map.mp q) ?_; intro p hp e')
    have := (G.nw p hp).2.2.1
    rw [e', F.under_cell e hoc] at this; cases this
/-- into a callee's frame -/
theorem Fm.enter (F : Fm w B L cl s₀ m cm news s) {L' : Addr} {m' cm' : PySem.Str → Option Value} {cl' : List (PySem.Str × Addr)} {h₁ : Heap} {tk : Nat} (hL : L' = s.heap.objs.size) (hns : h₁.Ns L' m') (hk : ∀ b o, s.heap.get? b = some o → h₁.get? b = some o) (hz : s.heap.objs.size ≤ h₁.objs.size)
    (ce : ∀ n c, cl'.lookup n = some c → h₁.IsCell c (cm' n)) (cd : ∀ n c, cl'.lookup n = some c → c ≠ L' ∧ c ∉ news.map (·.1) ∧ ¬ Tab c) (cp : ∀ n n' c, cl'.lookup n = some c → cl'.lookup n' = some c → n = n') :
    Fm w (under s news) L' cl' s m' cm' news { s with heap := h₁, toks := tk } where
  wf := F.wf_under
  ns := hns
  keep := fun b o e => hk b o (of_hideAll _ e)
  above := by
    refine ⟨?_, by rw [hL]; exact Nat.le_trans F.szL (Nat.le_of_lt F.ns.lt)⟩
    cases q : (under s news).get? L' with
    | none => rfl
    | some o => exact absurd (Heap.lt_size q) (by rw [hL]; show ¬ s.heap.objs.size < (hideAll s.heap _).objs.size; rw [hideAll_size]; exact Nat.lt_irrefl _)
  nw := fun p hp => let ⟨a, b, c, d⟩ := F.nw p hp; ⟨hk _ _ a, by rw [hL]; exact Nat.ne_of_lt (Heap.lt_size a), hideAll_none _ (.tail _ (.tail _ (List.mem_map_of_mem hp))), d⟩
  nd := F.nd
  ce := ce
  cd := cd
  cp := cp
  tb := F.tb.keeps hk
  rl := (Rel.refl s).heap hz fun t _ o e => hk t o e
end
structure Room (n : Nat) (A : Around) : Prop where
  handled : A.handled = none
  depth : A.depth + n ≤ 800
  units : A.units + 50 * n ≤ 9000
  frames : ∃ l, A.frames = some l
theorem Room.deeper {n : Nat} {A : Around} {env : Env} (R : Room (n + 1) A) : Room n (A.deeper env) :=
  ⟨R.handled, by show A.depth + 1 + n ≤ 800; have := R.depth; (first | lia | omega), by show A.units + 3 + 50 * n ≤ 9000; have := R.units; (first | lia | omega), let ⟨l, h⟩ := R.frames; ⟨env :: l, by show A.frames.map _ = _; rw [h]; rfl⟩⟩
theorem Room.less {n k : Nat} {A : Around} (R : Room n A) (h : k ≤ n) : Room k A := ⟨R.handled, by have := R.depth; (first | lia | omega), by have := R.units; (first | lia | omega), R.frames⟩
theorem Room.in1 {n : Nat} {A : Around} (R : Room (n + 1) A) : Room n A.in1 := ⟨R.handled, by show A.depth + n ≤ 800; have := R.depth; (first | lia | omega), by show A.units + 1 + 50 * n ≤ 9000; have := R.units; (first | lia | omega), R.frames⟩
theorem Room.lt {n : Nat} {A : Around} (R : Room n A) : A.depth < recursionLimit := by have := R.depth; show A.depth < 1000; (first | lia | omega)
theorem Room.cl {n : Nat} {A : Around} (R : Room n A) : A.units < cLine := by have := R.units; show A.units < 9900; (first | lia | omega)

noncomputable abbrev M (w : World) : Model := model pw w
noncomputable abbrev bnd (binds : List (PySem.Str × Value)) : PySem.Str → Option Value := fun x => binds.reverse.lookup x
/-- the end of a callee: its frame is left -/
noncomputable def Back (w : World) (B : Heap) (L : Addr) (m : PySem.Str → Option Value) (cl : List (PySem.Str × Addr)) (cm : PySem.Str → Option Value) (news : List (Addr × Obj)) (s₀ s : Shared) (Q : Value → Shared → Prop) (v : Value) (s' : Shared) : Prop :=
  ∃ L' m' cl' cm' news', Fm w (under s news) L' cl' s m' cm' news' s' ∧ (Fm w B L cl s₀ m cm news' s' → Q v s')
section
variable {w : World} {B : Heap} {L : Addr} {m : PySem.Str → Option Value} {cl : List (PySem.Str × Addr)} {cm : PySem.Str → Option Value} {news : List (Addr × Obj)} {s₀ s : Shared} {A : Around} {E : Value → Shared → Prop} {Q : Value → Shared → Prop}
theorem Back.go (F : Fm w B L cl s₀ m cm news s) {v : Value} {s' : Shared} (h : Back w B L m cl cm news s₀ s Q v s') : Q v s' := let ⟨_, _, _, _, _, G, k⟩ := h; k (F.leave G)
theorem Back.of {L' : Addr} {m' cm' : PySem.Str → Option Value} {cl' : List (PySem.Str × Addr)} {news' : List (Addr × Obj)} {v : Value} {s' : Shared} (G : Fm w (under s news) L' cl' s m' cm' news' s') (k : Fm w B L cl s₀ m cm news' s' → Q v s') : Back w B L m cl cm news s₀ s Q v s' := ⟨L', m', cl', cm', news', G, k⟩
noncomputable def retV : Flow → Value
  | .ret v => v
  | _ => .none

theorem call_fn {n : Nat} {f : Addr} {oc : Value} {od : Option Addr} {osl : Array (Option Value)} {fd : FuncData} {body : List Stmt} {pos : List Value} {kw : List (PySem.Str × Value)} {binds : List (PySem.Str × Value)} {cmF : PySem.Str → Option Value}
    (R : Room (n + 1) A) (F : Fm w B L cl s₀ m cm news s)
    (ho : (KF w.params).lookup f = some ⟨oc, od, .func fd, osl⟩) (hcd : codeIn (KF w.params) fd.code fd.qualname = true) (hbody : fd.body = .stmts body) (hbind : BindsTo s fd ⟨pos, kw⟩ binds)
    (hcell : (fd.scope.names.all fun x => decide (x.2 ≠ .cell)) = true) (hloc : (binds.all fun x => decide (fd.scope.names.lookup x.1 = some .local)) = true)
    (hcl : ∀ n c, fd.closure.lookup n = some c → c < szTop ∧ ¬ Tab c ∧ ∃ o, (KF w.params).lookup c = some o ∧ o.data = .cell (cmF n)) (hcp : ∀ n n' c, fd.closure.lookup n = some c → fd.closure.lookup n' = some c → n = n')
    (h : ∀ Qo : Flow → Shared → Prop, (∀ fl s', Back w B L m cl cm news s₀ s Q (retV fl) s' → Qo fl s') → ∀ L' s₁, L' = s.heap.objs.size → Fm w (under s news) L' fd.closure s (bnd binds) cmF news s₁ → Room n (A.deeper (callEnv fd L' f)) →
      wpAny (M w) (A.deeper (callEnv fd L' f)) (execs body (callEnv fd L' f)) Qo (fun _ _ => False) s₁)
    (hco : fd.scope.isCoroutine = false) (hgen : fd.scope.isGenerator = false) (hk : fd.scope.kind = .function) : wpAny (M w) A (call (.ref f) pos kw) Q E s := by
  have X := F.K
  refine wpAny_call (codeAny_call_def (fd := fd) (body := body) (binds := binds) R.lt (X _ _ ho) rfl (F.wf.nl.keeps F.keep) (codeRec_of X hcd) hbody hbind
    (fun x hx => of_decide_eq_true (List.all_eq_true.mp hcell x hx)) (locs hloc) (fun h₁ hns hk₁ => ?_) hco hgen hk)
  have hz : s.heap.objs.size < h₁.objs.size := hns.lt
  refine wpAny_mono (h _ (fun _ _ x => x) s.heap.objs.size _ rfl (F.enter rfl hns hk₁ (Nat.le_of_lt hz) (fun n c e => ?_) (fun n c e => ?_) hcp) R.deeper) (fun fl s' hb => ?_) (fun _ _ x => x.elim)
  · obtain ⟨_, _, o, ho, hd⟩ := hcl n c e
    exact ⟨o, hk₁ _ _ (X _ _ ho), hd⟩
  · obtain ⟨hs, hT, o, ho, hd⟩ := hcl n c e
    refine ⟨Nat.ne_of_lt (Heap.lt_size (X _ _ ho)), fun q => ?_, hT⟩
    (refine x1_2 (List.mem_map.mp q) ?_; intro p hp e')
    exact absurd hs (by rw [← e']; exact Nat.not_lt.mpr (F.nw p hp).2.2.2)
  · cases fl <;> exact hb.go F
end

section
variable {M : Model} {A : Around} {E : Value → Shared → Prop} {K : Frag} {x : Addr} {ox : Obj} {v t : Value} {name : PySem.Str} {h : Heap} {g : Array GenState} {d : Drawn} {tk : Nat} {os : OsState}
theorem st_type {Q : Value → Shared → Prop} (hx : h.get? x = some ox) (q : Q ox.cls ⟨h, g, d, tk, os⟩) : wpAny M A (typeOf (.ref x)) Q E ⟨h, g, d, tk, os⟩ := Looks.at (M := M) ((Looks.ld hx).andThen .now) q
theorem st_typeK {Q : Value → Shared → Prop} (X : K.In h) (e : typeIn K v = some t) (q : Q t ⟨h, g, d, tk, os⟩) : wpAny M A (typeOf v) Q E ⟨h, g, d, tk, os⟩ := (looks_typeIn X e).at q
theorem st_special {Q : Option Value → Shared → Prop} {r : Option Value} (hx : h.get? x = some ox) (X : K.In h) (e : findIn K ox.cls name = some r) (q : Q r ⟨h, g, d, tk, os⟩) : wpAny M A (specialOf (.ref x) name) Q E ⟨h, g, d, tk, os⟩ :=
  wpAny_bind (st_type hx ((looks_findIn X e).at q))
theorem st_specialK {Q : Option Value → Shared → Prop} {r : Option Value} (X : K.In h) (e : specialIn K v name = some r) (q : Q r ⟨h, g, d, tk, os⟩) : wpAny M A (specialOf v name) Q E ⟨h, g, d, tk, os⟩ := (looks_specialIn X e).at q
theorem st_lookup {Q : Option Value → Shared → Prop} {r : Option Value} (X : K.In h) (e : findIn K t name = some r) (q : Q r ⟨h, g, d, tk, os⟩) : wpAny M A (typeLookup t name) Q E ⟨h, g, d, tk, os⟩ := (looks_findIn X e).at q
theorem st_sub {Q : Bool → Shared → Prop} {r : Bool} {b : Value} (X : K.In h) (e : subIn K t b = some r) (q : Q r ⟨h, g, d, tk, os⟩) : wpAny M A (isSubtype t b) Q E ⟨h, g, d, tk, os⟩ := (looks_subIn X e).at q
theorem st_inst {Q : Bool → Shared → Prop} {r : Bool} {b : Value} (hx : h.get? x = some ox) (X : K.In h) (e : subIn K ox.cls b = some r) (q : Q r ⟨h, g, d, tk, os⟩) : wpAny M A (isInstance (.ref x) b) Q E ⟨h, g, d, tk, os⟩ :=
  wpAny_bind (st_type hx (st_sub X e q))
theorem st_instK {Q : Bool → Shared → Prop} {r : Bool} {b : Value} (X : K.In h) (e : instIn K v b = some r) (q : Q r ⟨h, g, d, tk, os⟩) : wpAny M A (isInstance v b) Q E ⟨h, g, d, tk, os⟩ := (looks_instIn X e).at q
theorem looks_inst {b : Value} {r : Bool} (hx : h.get? x = some ox) (X : K.In h) (e : subIn K ox.cls b = some r) : Looks M h (isInstance (.ref x) b) r := ((Looks.ld hx).andThen .now).andThen (looks_subIn X e)
theorem st_bindS {f self tf : Value} {Q : Value × List Value → Shared → Prop} (X : K.In h) (e : typeIn K f = some tf) (ht : (tf == .type "function" || tf == .type "method_descriptor" || tf == .type "wrapper_descriptor") = true) (q : Q (f, [self]) ⟨h, g, d, tk, os⟩) : wpAny M A (bindSpecial f self) Q E ⟨h, g, d, tk, os⟩ := by
  unfold bindSpecial
  refine wpAny_bind (st_typeK X e ?_)
  rw [ht, if_pos rfl]
  exact wpAny_pure q
theorem st_updateSeq {c : Value} {dd : Option Addr} {xs : Array Value} {n : Nat} {sl : Array (Option Value)} {f : Array Value → Array Value} {Q : Unit → Shared → Prop} (hx : h.get? x = some ⟨c, dd, .seq xs n, sl⟩) (hz : xs.size ≤ 100000) (hz' : (f xs).size ≤ 200000)
    (q : ∀ h' n', Heap.SameBut x h h' → h'.get? x = some ⟨c, dd, .seq (f xs) n', sl⟩ → Q () ⟨h', g, d, tk, os⟩) : wpAny M A (updateSeq x f) Q E ⟨h, g, d, tk, os⟩ :=
  wpAny_updateSeq hx rfl (q _ (if (f xs).size == xs.size then n else n + 1) (Heap.SameBut.update _ _ _) (Heap.get?_update_self _ hx rfl)) (Nat.le_trans hz (by decide)) (Nat.le_trans hz' (by decide))
theorem pushIn {o : Obj} (X : K.In h) : K.In (h.push o) := X.keeps fun _ _ e => Heap.get?_push_of_some _ e
end
theorem looks_idict {K : Frag} {M : Model} {h : Heap} {x C dx : Addr} {ox : Obj} {b : Bool} (X : K.In h) (hx : h.get? x = some ox) (hcl : ox.cls = .ref C) (hh : hasDictIn K C = true) (hd : ox.dict = some dx) : Looks M h (instanceDict x b) (some dx) := by
  (refine x1_2 (any_some hh) ?_; intro cd hc hh)
  intro A Q E s k q
  unfold instanceDict
  obtain ⟨c, dd, dt, sl⟩ := ox
  dsimp only at hcl hd
  subst hcl hd
  refine wpAny_bind (wpAny_loadPart (k _ _ hx) ?_)
  dsimp only
  refine wpAny_bind ((looks_clsIn X hc) A _ E s k ?_)
  rw [hh]
  exact wpAny_pure q
/-- what an object's dict says -/
structure EsOk (es : List DictEntry) (m : PySem.Str → Option Value) (c : Nat) : Prop where
  keys : ∀ e ∈ es, ∃ n t, e.key = .str n t
  find : ∀ n, (es.find? (·.key.isStr n)).map (·.val) = m n
  len : es.length ≤ c
noncomputable def upd (m : PySem.Str → Option Value) (n : PySem.Str) (v : Value) : PySem.Str → Option Value := fun y => if y = n then some v else m y
theorem EsOk.nil (c : Nat) : EsOk [] (fun _ => none) c := ⟨fun _ h => (nomatch h), fun _ => rfl, Nat.zero_le _⟩
theorem EsOk.look {es : List DictEntry} {m : PySem.Str → Option Value} {c k : Nat} (H : EsOk es m c) (n : PySem.Str) : lookIn n (dictOf es k) = some (m n) := by
  rw [lookIn_dict]
  unfold getL
  have q : es.any (·.refKey) = false := by
    rw [List.any_eq_false]; intro e he; obtain ⟨n, t, h⟩ := H.keys e he; simp [DictEntry.refKey, h]
  have hc := H.find n
  cases z : es.find? (fun x => x.key.isStr n) with
  | none => rw [z] at hc; rw [← hc, q]; rfl
  | some e => rw [z] at hc; rw [← hc]; rfl
theorem isStr_str (n name : PySem.Str) (t : Tok) : (Value.str name t).isStr n = decide (n = name) := by
  show (name == n) = _
  by_cases h : n = name
  · subst h; simp
  · have : ¬ name = n := fun e => h e.symm
    simp [h, this]
theorem putL_ok {name : PySem.Str} {hsh : Int} {t : Tok} {v : Value} : ∀ {es : List DictEntry} {m : PySem.Str → Option Value} {c : Nat}, EsOk es m c → EsOk (putL name hsh (.str name t) v es) (upd m name v) (c + 1)
  | [], m, c, H => ⟨fun e he => by simp [putL] at he; subst he; exact ⟨_, _, rfl⟩, fun n => by
      have := H.find n
      simp only [putL, List.find?_cons, isStr_str, List.find?_nil, upd]
      by_cases q : n = name
      · simp [q]
      · simpa [q] using this, by simp [putL]⟩
  | e :: r, m, c, H => by
    (refine x2_1 (H.keys e (.head _)) ?_; intro n₀ t₀ he)
    have R : EsOk r (fun n => (r.find? (·.key.isStr n)).map (·.val)) (c - 1) := ⟨fun e h => H.keys e (.tail _ h), fun _ => rfl, by have := H.len; simp at this; (first | lia | omega)⟩
    have hl := H.len
    simp at hl
    unfold putL
    have hs : e.key.isStr name = decide (name = n₀) := by rw [he]; exact isStr_str _ _ _
    by_cases q : name = n₀
    · rw [hs, decide_eq_true q, if_pos rfl]
      refine ⟨fun x hx => ?_, fun n => ?_, by simp; (first | lia | omega)⟩
      · rcases List.mem_cons.mp hx with rfl | hx
        · exact ⟨n₀, t₀, he⟩
        · exact H.keys x (.tail _ hx)
      · have := H.find n
        simp only [List.find?_cons, he, isStr_str, upd] at this ⊢
        by_cases z : n = n₀
        · simp [z, q]
        · simpa [z, q] using this
    · rw [hs, decide_eq_false q, if_neg Bool.false_ne_true]
      have ih := putL_ok (name := name) (hsh := hsh) (t := t) (v := v) R
      refine ⟨fun x hx => ?_, fun n => ?_, by have := ih.len; simp; (first | lia | omega)⟩
      · rcases List.mem_cons.mp hx with rfl | hx
        · exact ⟨n₀, t₀, he⟩
        · exact ih.keys x hx
      · have := H.find n
        have i2 := ih.find n
        simp only [List.find?_cons, he, isStr_str, upd] at this i2 ⊢
        by_cases z : n = n₀
        · have zz : ¬ n = name := fun e => q (e ▸ z)
          simp [z] at this ⊢
          rw [if_neg (fun e => q e.symm)]; exact this
        · simp only [z, decide_false] at this ⊢
          rw [i2, this]
theorem putL_len {name : PySem.Str} {hsh : Int} {t : Tok} {v : Value} : ∀ {es : List DictEntry}, (es.find? (·.key.isStr name)).isSome → (putL name hsh (.str name t) v es).length = es.length
  | [], H => by cases H
  | e :: r, H => by
    unfold putL
    cases q : e.key.isStr name with
    | true => simp
    | false =>
      rw [List.find?_cons, q] at H
      simp [putL_len (name := name) (hsh := hsh) (t := t) (v := v) H]
theorem upd_upd {m : PySem.Str → Option Value} {n : PySem.Str} {v v' : Value} : upd (upd m n v) n v' = upd m n v' := by
  funext y; unfold upd; by_cases h : y = n <;> simp [h]
section
variable {M : Model} {A : Around} {E : Value → Shared → Prop} {h : Heap} {g : Array GenState} {d : Drawn} {tk : Nat} {os : OsState}
theorem st_newTuple {vs : List Value} {Q : Value → Shared → Prop} (hz : vs.length ≤ 1000) (q : Q (.ref h.objs.size) ⟨h.push ⟨.type "tuple", none, .seq vs.toArray 0, #[]⟩, g, d, tk, os⟩) : wpAny M A (newTuple vs) Q E ⟨h, g, d, tk, os⟩ :=
  wpAny_newObj_type q (by show vs.toArray.size ≤ sizeLine; have : (1000 : Nat) ≤ sizeLine := by decide
                          simp; (first | lia | omega))
theorem st_newList {vs : List Value} {Q : Value → Shared → Prop} (hz : vs.length ≤ 1000) (q : Q (.ref h.objs.size) ⟨h.push ⟨.type "list", none, .seq vs.toArray 0, #[]⟩, g, d, tk, os⟩) : wpAny M A (newList vs) Q E ⟨h, g, d, tk, os⟩ :=
  wpAny_newObj_type q (by show vs.toArray.size ≤ sizeLine; have : (1000 : Nat) ≤ sizeLine := by decide
                          simp; (first | lia | omega))
theorem st_nsSet {a : Addr} {es : List DictEntry} {k c : Nat} {m : PySem.Str → Option Value} {name : PySem.Str} {v : Value} {Q : Unit → Shared → Prop} (hd : h.get? a = some (dictOf es k)) (H : EsOk es m c)
    (q : ∀ h' k' es', Heap.SameBut a h h' → h'.get? a = some (dictOf es' k') → EsOk es' (upd m name v) (if (m name).isSome then c else c + 1) → Q () ⟨h', g, d, tk + 1, os⟩) : wpAny M A (nsSet a name v) Q E ⟨h, g, d, tk, os⟩ := by
  unfold nsSet
  refine wpAny_bind (wpAny_bind (wpAny_askSetting (wpAny_pure (wpAny_bind (wpAny_mkText (wpAny_bind (wpAny_loadPart hd ?_)))))))
  dsimp only
  have hany : es.toArray.any (·.refKey) = false := by
    rw [← Array.any_toList, List.any_eq_false]; intro e he; obtain ⟨n, t, h⟩ := H.keys e he; simp [DictEntry.refKey, h]
  simp only [aRefKeyMayBeTheName_eq, aRefKeyMayBeTheNameByArray, hany, Bool.and_false, Bool.false_eq_true, if_false]
  refine wpAny_updatePart hd (q _ (putN name es k) (putL name (PyData.keyHash M.w.params name) (.str name tk) v es) (Heap.SameBut.update _ _ _) ?_ ?_)
  refine (Heap.get?_update_self _ hd ?_).trans ?_
  · show Obj.isFreed (Obj.putName name (PyData.keyHash M.w.params name) (.str name tk) v (dictOf es k)) = false
    rw [putName_dict]; rfl
  · exact congrArg some (putName_dict _ _ _ _ _ _)
  · have z := putL_ok (name := name) (hsh := PyData.keyHash M.w.params name) (t := tk) (v := v) H
    split
    · rename_i hs
      have := H.find name
      refine ⟨z.keys, z.find, ?_⟩
      rw [putL_len (by rw [← H.find name] at hs; simpa using hs)]
      exact H.len
    · exact z
end
local macro_rules | `(tactic| ktn_no "in_h") => `(tactic| first | assumption | (repeat (with_reducible refine pushIn ?_)); assumption)
local macro_rules | `(tactic| ktn_no "sz_tac") => `(tactic| first | (first | lia | omega) | (simp; done) | (simp; (first | lia | omega)) | (simp [Array.size_eraseIdxIfInBounds]; split <;> simp <;> (first | lia | omega)))
local macro_rules | `(tactic| ktn_no "st_one") => `(tactic| first
  | ((with_reducible first
    | refine st_type (by heap_get; done) ?_
    | refine st_special (by heap_get; done) (by ktn_no "in_h") (by ktn_no "k_ev") ?_
    | refine st_inst (by heap_get; done) (by ktn_no "in_h") (by ktn_no "k_ev") ?_
    | refine st_typeK (by ktn_no "in_h") (by ktn_no "k_ev") ?_
    | refine st_specialK (by ktn_no "in_h") (by ktn_no "k_ev") ?_
    | refine st_instK (by ktn_no "in_h") (by ktn_no "k_ev") ?_
    | refine st_lookup (by ktn_no "in_h") (by ktn_no "k_ev") ?_
    | refine st_bindS (by ktn_no "in_h") (by ktn_no "k_ev") (by decide +kernel) ?_
    | refine st_sub (by ktn_no "in_h") (by ktn_no "k_ev") ?_); try dsimp only)
  | (with_reducible refine st_updateSeq (by heap_get; done) ?hz1 ?hz2 ?_; (case hz1 => ktn_no "sz_tac"); (case hz2 => ktn_no "sz_tac"))
  | wp_step)
local macro_rules | `(tactic| ktn_no "go") => `(tactic| repeat (ktn_no "no_call"; ktn_no "st_one"))

section
variable {prog : Program} {w : World} {A : Around} {E : Value → Shared → Prop} {s : Shared} {Q : Value → Shared → Prop}
theorem check_bi {M : Model} {i owner n : String} {self : Value} {rest : List Value} {kw : List (PySem.Str × Value)} {Q : Unit → Shared → Prop}
    (hk : builtinKind i = some .slot ∨ builtinKind i = some .method) (hs : splitId i = some (owner, n)) (hi : Looks M s.heap (isInstance self (.type owner)) true) (ha : argsOk i ⟨self :: rest, kw⟩) (q : Q () s) :
    wpAny M A (checkBuiltinCall i ⟨self :: rest, kw⟩) Q E s := by
  rcases hk with hk | hk <;>
  · simp only [checkBuiltinCall, hk, hs]
    refine wpAny_bind (hi.here ?_)
    simp only [Bool.not_true, Bool.false_eq_true, if_false]
    cases hsig : Manifest.signature? i with
    | none => exact wpAny_pure q
    | some sig =>
      simp only [argsOk, hsig] at ha
      have h2 : Bind.checkArgs i sig ⟨self :: rest, kw⟩ = pure () := ha
      show wpAny M A (Bind.checkArgs i sig ⟨self :: rest, kw⟩) Q E s
      rw [h2]; exact wpAny_pure q
theorem call_bi {i owner n : String} {b : Builtin} {self : Value} {rest : List Value}
    (hk : builtinKind i = some .slot ∨ builtinKind i = some .method) (hs : splitId i = some (owner, n)) (hq : plainId i = true) (hb : entryFor table i = some b) (ha : argsOk i ⟨self :: rest, []⟩)
    (hi : Looks (model prog w) s.heap (isInstance self (.type owner)) true)
    (hc : wpAny (model prog w) A.in1 (b ⟨self :: rest, []⟩) (fun fin s' => ∃ v, fin = .done (.ret v) ∧ Q v s') E s) :
    wpAny (model prog w) A (call (.builtin i) (self :: rest)) Q E s := by
  refine wpAny_call (codeAny_call_builtin hq hb (check_bi hk hs hi ha (wpAny_mono hc (fun fin s' h' => ?_) fun _ _ h' => h')))
  obtain ⟨v, rfl, hv⟩ := h'; exact hv
end


/-- an object of the class _Accumulator -/
noncomputable abbrev accO (dx : Addr) (vs : List Value) (n : Nat) : Obj := ⟨.ref a_Acc, some dx, .seq vs.toArray n, #[]⟩

theorem upd_hit {m : PySem.Str → Option Value} {x : PySem.Str} {v : Value} : upd m x v x = some v := by unfold upd; rw [if_pos rfl]
theorem upd_miss {m : PySem.Str → Option Value} {x y : PySem.Str} {v : Value} {c : Option Value} (h : decide (y = x) = false) (e : m y = c) : upd m x v y = c := by unfold upd; rw [if_neg (of_decide_eq_false h)]; exact e
local macro_rules | `(tactic| ktn_no "k_val") => `(tactic| first
  | (with_reducible assumption)
  | (with_reducible exact upd_hit)
  | ((with_reducible refine upd_miss ?_ ?_); kernel_rfl!; ktn_no "k_val")
  | k_dflt rfl)
section
open Builtin Builtin.ObjectAttr
section
variable {w : World} {A : Around} {E : Value → Shared → Prop} {x dx : Addr} {vs : List Value} {n : Nat} {h : Heap} {g : Array GenState} {d : Drawn} {tk : Nat} {os : OsState}

theorem acc_append {Q : Value → Shared → Prop} {v : Value} (X : (KF w.params).In h) (hx : h.get? x = some (accO dx vs n)) (hz : vs.length ≤ 1000)
    (q : ∀ h' n', Heap.SameBut x h h' → h'.get? x = some (accO dx (vs ++ [v]) n') → Q .none ⟨h', g, d, tk, os⟩) :
    wpAny (M w) A (call (.builtin "list.append") [.ref x, v]) Q E ⟨h, g, d, tk, os⟩ := by
  refine call_bi (i := "list.append") (owner := "list") (n := "append") (b := Builtin.«list.append») (by first | exact .inr (by decide +kernel) | exact .inl (by decide +kernel)) (by decide +kernel) (by decide +kernel) (entryFor_of_tree (by kernel_rfl)) (by unfold argsOk; kernel_rfl) (looks_inst hx X (by ktn_no "k_ev")) ?_
  unfold Builtin.«list.append» Builtin.List.listUpdate
  ktn_no "go"
  intro h1 n1 hs hx1
  ktn_no "go"
  exact ⟨_, rfl, q _ _ hs (by simpa using hx1)⟩
theorem acc_pop_b {Q : Value → Shared → Prop} {v : Value} (hx : h.get? x = some (accO dx (vs ++ [v]) n)) (hz : vs.length ≤ 1000)
    (q : ∀ h' n', Heap.SameBut x h h' → h'.get? x = some (accO dx vs n') → Q v ⟨h', g, d, tk, os⟩) :
    wpAny (M w) A (Builtin.«list.pop» ⟨[.ref x], []⟩) (fun fin s' => ∃ v, fin = .done (.ret v) ∧ Q v s') E ⟨h, g, d, tk, os⟩ := by
  unfold Builtin.«list.pop»
  ktn_no "go"
  have e : (seqIndex? (-1) (vs ++ [v]).toArray.size).bind (fun k => Option.map (fun x => (k, x)) (vs ++ [v]).toArray[k]?) = some (vs.length, v) := by
    have e1 : seqIndex? (-1) (vs ++ [v]).toArray.size = some vs.length := by
      unfold seqIndex?
      simp
      try (first | lia | omega)
    rw [e1]; simp
  rw [e]
  unfold Builtin.List.listUpdate
  dsimp only
  refine wpAny_bind (st_updateSeq hx ?_ ?_ ?_)
  · simp; (first | lia | omega)
  · simp [List.length_eraseIdx]; (first | lia | omega)
  intro h1 n1 hs hx1
  ktn_no "go"
  exact ⟨_, rfl, q _ _ hs (by simpa [List.eraseIdx_append_of_length_le] using hx1)⟩
theorem acc_iter {Q : Value → Shared → Prop} (X : (KF w.params).In h) (hx : h.get? x = some (accO dx vs n))
    (q : Q (.ref h.objs.size) ⟨h.push ⟨.type "list_iterator", none, .fields #[.ref x, rawInt 0], #[]⟩, g, d, tk, os⟩) :
    wpAny (M w) A (call (.builtin "list.__iter__") [.ref x]) Q E ⟨h, g, d, tk, os⟩ := by
  refine call_bi (i := "list.__iter__") (owner := "list") (n := "__iter__") (b := Builtin.«list.__iter__») (by first | exact .inr (by decide +kernel) | exact .inl (by decide +kernel)) (by decide +kernel) (by decide +kernel) (entryFor_of_tree (by kernel_rfl)) (by unfold argsOk; kernel_rfl) (looks_inst hx X (by ktn_no "k_ev")) ?_
  unfold Builtin.«list.__iter__»
  ktn_no "go"
  exact ⟨_, rfl, q⟩
variable {hs : Int} {t1 : Tok} {v : Value} {k : Nat} {es : List DictEntry} {c : Nat} {mm : PySem.Str → Option Value}
theorem acc_method {Q : Value × List Value → Shared → Prop} {pl : Sem Bool} {name : PySem.Str} {f tf : Value} (X : (KF w.params).In h) (hx : h.get? x = some (accO dx vs n)) (hd : h.get? dx = some (dictOf es k)) (hD : EsOk es mm c)
    (hf : findIn (KF w.params) (.ref a_Acc) name = some (some f)) (ht : typeIn (KF w.params) f = some tf) (ht2 : (tf != .type "function" && tf != .type "method_descriptor" && tf != .type "wrapper_descriptor") = false) (hl : mm name = none)
    (q : Q (f, [.ref x]) ⟨h, g, d, tk, os⟩) : wpAny (M w) A (getMethod (.ref x) name pl) Q E ⟨h, g, d, tk, os⟩ := by
  unfold getMethod
  refine wpAny_bind (st_special hx X (by ktn_no "k_ev") ?_)
  dsimp only
  rw [if_neg (by decide +kernel)]
  refine wpAny_bind (st_special hx X (by ktn_no "k_ev") ?_)
  rw [if_neg (by decide)]
  refine wpAny_bind (st_special hx X hf ?_)
  dsimp only
  refine wpAny_bind (st_typeK X ht ?_)
  rw [ht2]
  rw [if_neg (by decide)]
  refine wpAny_bind (wpAny_loadPart hx ?_)
  refine wpAny_bind (wpAny_bind (wpAny_loadPart hd ?_))
  rw [nsLook_of (hD.look name), hl]
  ktn_no "go"
  exact q
theorem acc_inst (hx : h.get? x = some (accO dx vs n)) {od : Obj} (hd : h.get? dx = some od) : InstAt h x (accO dx vs n) a_Acc (some od) := ⟨hx, rfl, rfl, hd⟩
theorem acc_get {Q : Value → Shared → Prop} {ex : Bool} (X : (KF w.params).In h) (hx : h.get? x = some (accO dx vs n)) (hd : h.get? dx = some (dictOf es k)) (hD : EsOk es mm c) (hm : mm "_initial_size" = some v) (hv : handedIn v = true)
    (q : Q v ⟨h, g, d, tk + 1, os⟩) : wpAny (M w) A (getAttr (.ref x) "_initial_size" ex) Q E ⟨h, g, d, tk, os⟩ := by
  unfold getAttr getAttrBy
  ktn_no "go"
  rw [show onTheHeap (Value.builtin "list.__getattribute__") = false from rfl, Bool.and_false, if_neg Bool.false_ne_true]
  unfold boundAndCalled
  refine wpAny_bind ?_
  ktn_no "st_one"
  refine call_bi (i := "list.__getattribute__") (owner := "list") (n := "__getattribute__") (b := Builtin.«object.__getattribute__») (by first | exact .inr (by decide +kernel) | exact .inl (by decide +kernel)) (by decide +kernel) (by decide +kernel) (entryFor_alias (id' := "object.__getattribute__") (by decide +kernel) (by decide +kernel) (by decide +kernel) (by rw [fastTable_eq_tree]; kernel_rfl)) (by unfold argsOk; kernel_rfl) (looks_inst hx X (by ktn_no "k_ev")) ?_
  unfold Builtin.«object.__getattribute__»
  have L : Looks (model pw w) h (find (.ref x) (.ref a_Acc) "_initial_size") (.value v) := looks_find X (acc_inst hx hd) (findObj_own (attr := none) (by ktn_no "k_ev") (by ktn_no "k_ev") (by ktn_no "k_ev") (by rw [hD.look, hm]))
  repeat (first | (with_reducible refine Looks.at L ?_; dsimp only) | ktn_no "st_one")
  refine ⟨_, rfl, ?_⟩
  rw [handedOut_of hv]
  exact wpAny_pure q
theorem acc_refuse (l : List Value) (h : l = [.ref a_Acc, .type "list", .type "object"]) : refuseLoop (.ref x) "__setattr__" l = pure () := by
  subst h
  rw [refuseLoop_ref]
  have e : refuseLoop (.ref x) "__setattr__" [.type "list", .type "object"] = refuseLoop (.ref x) "__setattr__" [.type "object"] := by
    unfold refuseLoop
    simp only [List.forIn_cons, classOwn]
    have : builtinOwn "list" "__setattr__" = none := by rw [builtinOwn_eq_fast]; decide +kernel
    simp [this]
  rw [e]; exact PySem.F.store_object.passes _
theorem acc_set {Q : Unit → Shared → Prop} (X : (KF w.params).In h) (hx : h.get? x = some (accO dx vs n)) (hne : x ≠ dx) (hd : h.get? dx = some (dictOf es k)) (hD : EsOk es mm c) (hc : c ≤ 100)
    (q : ∀ h' tk' k' es', Heap.SameBut dx h h' → h'.get? dx = some (dictOf es' k') → EsOk es' (upd mm "_initial_size" v) (if (mm "_initial_size").isSome then c else c + 1) → Q () ⟨h', g, d, tk', os⟩) : wpAny (M w) A (setAttr (.ref x) "_initial_size" v) Q E ⟨h, g, d, tk, os⟩ := by
  unfold setAttr
  ktn_no "go"
  refine call_bi (i := "object.__setattr__") (owner := "object") (n := "__setattr__") (b := Builtin.«object.__setattr__») (by first | exact .inr (by decide +kernel) | exact .inl (by decide +kernel)) (by decide +kernel) (by decide +kernel) (entryFor_of_tree (by kernel_rfl)) (by unfold argsOk; kernel_rfl) (looks_inst hx X (by ktn_no "k_ev")) ?_
  rw [show (Value.ref x :: [].append [Value.str "_initial_size" tk, v]) = [Value.ref x, Value.str "_initial_size" tk, v] from rfl, osa_eq, refuse_eq]
  refine wpAny_bind (wpAny_bind (st_type hx (wpAny_bind ?_)))
  refine Looks.at (r := [.ref a_Acc, .type "list", .type "object"]) ((looks_clsIn X (by ktn_no "k_ev")).andThen (Looks.of_pure (by kernel_rfl))) ?_
  rw [acc_refuse _ rfl]
  have LI : Looks (model pw w) h (instanceDict x true) (some dx) := looks_idict X hx rfl (by ktn_no "k_ev") rfl
  repeat (first | (with_reducible refine st_nsSet hd hD ?_) | (with_reducible refine Looks.at LI ?_; dsimp only) | (ktn_no "no_call"; ktn_no "st_one"))
  intro h' k' es' hs h1 hE
  refine wpAny_bind (wpAny_lookBehind h1 ?_ ?_)
  · show Data.pastItsLine (.dict es'.toArray k') = none
    have := hE.len
    split at this <;> exact if_neg (by show ¬ es'.length > 16777216 + 1; (first | lia | omega))
  ktn_no "go"
  exact ⟨_, rfl, wpAny_pure (wpAny_pure (q _ _ _ _ hs h1 hE))⟩
end

end

section
variable {w : World} {B : Heap} {L : Addr} {m : PySem.Str → Option Value} {cl : List (PySem.Str × Addr)} {cm : PySem.Str → Option Value} {news : List (Addr × Obj)} {s₀ : Shared} {A : Around} {E : Value → Shared → Prop}
  {h : Heap} {g g₀ : Array GenState} {d d₀ : Drawn} {tk tk₀ : Nat} {os os₀ : OsState} {env : Env} {x : PySem.Str} {v : Value} {c : Addr} {pos : Pos}
theorem nm_L {Q : Value → Shared → Prop} (F : Fm w B L cl s₀ m cm news ⟨h, g₀, d₀, tk₀, os₀⟩) (hk : env.scope.kind = .function) (hx : env.kindOf x = some .local) (hL : env.locals = L) (hb : (x == ("__debug__" : PySem.Str)) = false) (hv : m x = some v) (q : Q v ⟨h, g, d, tk, os⟩) :
    wpAny (M w) A (eval (.Name x pos) env) Q E ⟨h, g, d, tk, os⟩ := wpAny_Name (wpAny_loadName_local hk hx (by subst hL; exact F.ns) hv q) hb
theorem nm_F {Q : Value → Shared → Prop} (F : Fm w B L cl s₀ m cm news ⟨h, g₀, d₀, tk₀, os₀⟩) (hk : env.scope.kind = .function) (hx : env.kindOf x = some .free) (hL : env.cells = cl) (hb : (x == ("__debug__" : PySem.Str)) = false) (hn : (x == ("__classdict__" : PySem.Str)) = false) (hc : cl.lookup x = some c) (hv : cm x = some v) (q : Q v ⟨h, g, d, tk, os⟩) :
    wpAny (M w) A (eval (.Name x pos) env) Q E ⟨h, g, d, tk, os⟩ := wpAny_Name (wpAny_loadName_free hk hx (by rw [hL]; exact hc) (hv ▸ F.ce x c hc) q hn) hb
theorem nm_C {Q : Value → Shared → Prop} (F : Fm w B L cl s₀ m cm news ⟨h, g₀, d₀, tk₀, os₀⟩) (hk : env.scope.kind = .function) (hx : env.kindOf x = some .cell) (hL : env.cells = cl) (hb : (x == ("__debug__" : PySem.Str)) = false) (hc : cl.lookup x = some c) (hv : cm x = some v) (q : Q v ⟨h, g, d, tk, os⟩) :
    wpAny (M w) A (eval (.Name x pos) env) Q E ⟨h, g, d, tk, os⟩ := wpAny_Name (wpAny_loadName_cell hk hx (by rw [hL]; exact hc) (hv ▸ F.ce x c hc) q) hb
theorem nm_G {Q : Value → Shared → Prop} (F : Fm w B L cl s₀ m cm news ⟨h, g₀, d₀, tk₀, os₀⟩) (hk : env.scope.kind = .function) (hx : env.kindOf x = some .globalImplicit) (hL : env.globals = mainGlobals) (hb : (x == ("__debug__" : PySem.Str)) = false) (e : nsIn (KF w.params) mainGlobals x = some (some v)) (q : Q v ⟨h, g, d, tk, os⟩) :
    wpAny (M w) A (eval (.Name x pos) env) Q E ⟨h, g, d, tk, os⟩ := by
  obtain ⟨mg, hg⟩ := F.wf.g
  exact Name_function_global hk hx (loadGlobal_global (by rw [hL]; exact hg.keeps F.keep) (mg_of F.wf.k hg e) q) hb
theorem nm_B {Q : Value → Shared → Prop} (F : Fm w B L cl s₀ m cm news ⟨h, g₀, d₀, tk₀, os₀⟩) (hk : env.scope.kind = .function) (hx : env.kindOf x = some .globalImplicit) (hL : env.globals = mainGlobals) (hL2 : env.builtins = builtinsNs) (hb : (x == ("__debug__" : PySem.Str)) = false)
    (e : nsIn (KF w.params) mainGlobals x = some none) (hv : bootBuiltins x = some v) (hn : x ≠ "__name__") (q : Q v ⟨h, g, d, tk, os⟩) :
    wpAny (M w) A (eval (.Name x pos) env) Q E ⟨h, g, d, tk, os⟩ := by
  obtain ⟨mg, hg⟩ := F.wf.g
  (refine x1_2 (F.wf.b) ?_; intro mb hmb hbb)
  exact Name_function_global hk hx (loadGlobal_builtin (by rw [hL]; exact hg.keeps F.keep) (mg_none_of F.wf.k hg e) (by rw [hL2]; exact hmb.keeps F.keep) ((hbb x hn).trans hv) q) hb
theorem st_L {Q : Unit → Shared → Prop} (F : Fm w B L cl s₀ m cm news ⟨h, g, d₀, tk₀, os⟩) (hk : env.scope.kind = .function) (hx : env.kindOf x = some .local) (hL : env.locals = L)
    (q : ∀ h', Fm w B L cl s₀ (upd m x v) cm news ⟨h', g, d, tk + 1, os⟩ → Q () ⟨h', g, d, tk + 1, os⟩) : wpAny (M w) A (storeName env x v) Q E ⟨h, g, d, tk, os⟩ := by
  subst hL
  exact wpAny_storeName_local hx F.ns (fun h' hn hs => q h' (Fm.store (s := ⟨h, g, d, tk, os⟩) (F.withD (d := d) (tk := tk)) hn hs)) (by rw [hk]; rfl)
theorem st_C {Q : Unit → Shared → Prop} (F : Fm w B L cl s₀ m cm news ⟨h, g, d₀, tk₀, os⟩) (hk : env.scope.kind = .function) (hx : env.kindOf x = some .cell) (hL : env.cells = cl) (hc : cl.lookup x = some c) (hB : B.get? c = none) (hz : szTop ≤ c)
    (q : ∀ h', Fm w B L cl s₀ m (upd cm x v) news ⟨h', g, d, tk, os⟩ → Q () ⟨h', g, d, tk, os⟩) : wpAny (M w) A (storeName env x v) Q E ⟨h, g, d, tk, os⟩ :=
  wpAny_storeName_cell hk hx (by rw [hL]; exact hc) (F.ce x c hc) (fun h' hv hs => q h' (Fm.storeC (s := ⟨h, g, d, tk, os⟩) (F.withD (d := d) (tk := tk)) hc hB hv hs hz (tk := tk)))
end

local macro_rules | `(tactic| ktn_no "nm1") => `(tactic| first
  | (with_reducible refine nm_L (by assumption) (by kernel_rfl) (by kernel_rfl!) (by kernel_rfl) (by kernel_rfl) (by ktn_no "k_val") ?_)
  | (with_reducible refine nm_F (by assumption) (by kernel_rfl) (by kernel_rfl!) (by kernel_rfl) (by kernel_rfl) (by kernel_rfl) (by ktn_no "k_val") (by ktn_no "k_val") ?_)
  | (with_reducible refine nm_C (by assumption) (by kernel_rfl) (by kernel_rfl!) (by kernel_rfl) (by kernel_rfl) (by ktn_no "k_val") (by ktn_no "k_val") ?_)
  | (with_reducible refine nm_G (by assumption) (by kernel_rfl) (by kernel_rfl!) (by kernel_rfl) (by kernel_rfl) (by ktn_no "k_ev") ?_)
  | (with_reducible refine nm_B (by assumption) (by kernel_rfl) (by kernel_rfl!) (by kernel_rfl) (by kernel_rfl) (by kernel_rfl) (by ktn_no "k_ev") (by boot_fast) (by decide) ?_))

section
variable {prog : Program} {w : World} {A : Around} {E : Value → Shared → Prop} {s : Shared} {env : Env} {pos : Pos} {e : Expr} {rest : List Expr}
theorem sp_cons {Q : List Value → Shared → Prop} (h : wpAny (model prog w) A (eval e env) (fun v s₁ => wpAny (model prog w) A (spliced (backTo pos (starEach rest env))) (fun vs s₂ => Q (v :: vs) s₂) E s₁) E s)
    (he : starEach (e :: rest) env = (false, eval e env) :: starEach rest env) : wpAny (model prog w) A (spliced (backTo pos (starEach (e :: rest) env))) Q E s := by
  rw [he]; exact spliced_cons h
theorem mc_ {o : Expr} {name : PySem.Str} {apos : Pos} {args : List Expr} {Q : Value → Shared → Prop}
    (h : wpAny (model prog w) A (eval o env) (fun ov s₁ => wpAny (model prog w) A (getMethod ov name (do return (← importBound o env).getD true)) (fun fx s₂ => wpAny (model prog w) A (callWith pos fx.1 fx.2 (backTo pos (starEach args env)) []) Q E s₂) E s₁) E s)
    (hbase : attributeBase o name env (eval o env) = eval o env) (hfew : methodCallForm (args.length + ([] : List Keyword).length) (backTo pos (starEach args env)) (backToKw pos (keywordEach [] env)) = true) (hline : (apos.endLine == pos.line) = true) :
    wpAny (model prog w) A (eval (.Call (.Attribute o name apos) args [] pos) env) Q E s := by
  rw [arm_eval_Call, hbase]
  refine wpAny_bind (wpAny_mono h (fun ov s₁ h₁ => ?_) fun _ _ e => e)
  refine wpAny_bind (wpAny_standAt ?_)
  have hpos : methodCallPos true o env apos pos = pure pos := by unfold methodCallPos; simp [hline]
  unfold methodCall
  rw [hfew]
  refine wpAny_bind (wpAny_holding (wpAny_mono h₁ (fun fx s₂ h₂ => ?_) fun _ _ e => e))
  exact wpAny_bind (wpAny_of_eq hpos h₂)
theorem sp_nil {Q : List Value → Shared → Prop} (h : Q [] s) : wpAny (model prog w) A (spliced (backTo pos (starEach [] env))) Q E s := spliced_nil h
theorem cw_b0 {id : String} {first : List Value} {Q : Value → Shared → Prop} (h : wpAny (model prog w) A (call (.builtin id) first) Q E s) :
    wpAny (model prog w) A (callWith pos (.builtin id) first (backTo pos (starEach [] env)) []) Q E s := callWith_method0 h
theorem cw_b {id : String} {first : List Value} {Q : Value → Shared → Prop} (h : wpAny (model prog w) A (spliced (backTo pos (starEach (e :: rest) env))) (fun vs s₁ => wpAny (model prog w) A (call (.builtin id) (first ++ vs)) Q E s₁) E s)
    (he : starEach (e :: rest) env = (false, eval e env) :: starEach rest env) (hp : (backTo pos (starEach rest env)).any (·.1) = false) :
    wpAny (model prog w) A (callWith pos (.builtin id) first (backTo pos (starEach (e :: rest) env)) []) Q E s := callWith_method1 h he hp
theorem cw_f0 {f : Value} {first : List Value} {Q : Value → Shared → Prop} (X : (KF w.params).In s.heap) (hk : keepIn (KF w.params) f = true) (h : wpAny (model prog w) A (call f first) Q E s) :
    wpAny (model prog w) A (callWith pos f first (backTo pos (starEach [] env)) []) Q E s := callWith_K0 X hk (by rw [List.append_nil]; exact h)
end
local macro_rules | `(tactic| ktn_no "w1") => `(tactic| first
  | (with_reducible first
    | refine wpAny_execs_nil ?_ | refine wpAny_execs_cons ?_ | refine wpAny_Return_some ?_ | refine wpAny_Return_none ?_ | refine wpAny_If ?_
    | refine isTrue_not ?_ | refine isTrue_and ?_ | refine isTrue_or ?_ | refine isTrue_and_nil ?_ | refine isTrue_or_nil ?_
    | refine wpAny_truthy_bool ?_ | refine eq_int ?_ | refine gt_int ?_ | refine lt_int ?_ | refine sub_int ?_ | refine add_int ?_ | refine is_none ?_ | refine neg_int ?_ | refine not_of ?_
    | refine wpAny_AugAssign_Name ?_ | refine wpAny_AugAssign_AttributeAny ?_ | refine wpAny_Break ?_ | refine wpAny_Continue ?_
    | refine wpAny_Constant_int ?_ | refine Constant_str ?_ | refine Constant_none ?_ | refine Constant_bool ?_
    | refine Tuple_ ?_ | refine List_ ?_ | refine wpAny_BinOp ?_ | refine UnaryOp_ ?_ | refine BoolOp_one ?_ | refine BoolOp_and ?_ | refine BoolOp_or ?_ | refine sp_nil ?_ | refine cw_b0 ?_)
  | ((with_reducible first
    | refine wpAny_isTrue_Compare1 ?_ ?a1 | refine wpAny_Assign_Name ?_ ?a1 | refine plainObj_wpAny_Assign_Attribute ?_ ?a1 | refine wpAny_Compare1 ?_ ?a1 | refine sp_cons ?_ ?a1); (case a1 => kernel_rfl))
  | ((with_reducible refine isTrue_plain ?_ ?a1); (case a1 => kernel_rfl!))
  | ktn_no "nm1"
  | ((with_reducible refine mc_ ?_ ?a1 ?a2 ?a3); (case a1 => kernel_rfl!); (case a2 => kernel_rfl); (case a3 => kernel_rfl))
  | ((with_reducible refine Attribute_any_ ?_ ?a1); (case a1 => kernel_rfl))
  | ((with_reducible first | refine wpAny_Expr_any ?_ ?a1 ?a2 | refine cw_b ?_ ?a1 ?a2); (case a1 => kernel_rfl); (case a2 => kernel_rfl))
  | ((ktn_no "no_call"); dsimp only))
local macro_rules | `(tactic| ktn_no "w") => `(tactic| repeat ktn_no "w1")

theorem perm_of {α : Type} {a b : List α} (h : ∀ [BEq α] [LawfulBEq α] (x : α), a.count x = b.count x) : a.Perm b := by
  letI : BEq α := ⟨fun a b => @decide (a = b) (Classical.propDecidable _)⟩
  haveI : LawfulBEq α := { eq_of_beq := fun h => @of_decide_eq_true _ (Classical.propDecidable _) h, rfl := fun {a} => @decide_eq_true (a = a) (Classical.propDecidable _) rfl }
  exact List.perm_iff_count.mpr fun x => h x
theorem pq_e {α : Type} {a : α} {l z t : List α} (h : l.Perm (a :: z)) (k : z.Perm t) : l.Perm (a :: t) := h.trans (k.cons a)
theorem pq_l {α : Type} {a l z t : List α} (h : l.Perm (a ++ z)) (k : z.Perm t) : l.Perm (a ++ t) := h.trans (k.append_left a)
theorem pq_ee {α : Type} {a b : α} {t z : List α} (h : t.Perm (a :: z)) : (b :: t).Perm (a :: b :: z) := (h.cons b).trans (.swap _ _ _)
theorem pq_le {α : Type} {a : α} {b t z : List α} (h : t.Perm (a :: z)) : (b ++ t).Perm (a :: (b ++ z)) := (h.append_left b).trans List.perm_middle
theorem pq_el {α : Type} {b : α} {a t z : List α} (h : t.Perm (a ++ z)) : (b :: t).Perm (a ++ (b :: z)) := (h.cons b).trans List.perm_middle.symm
theorem pq_ll {α : Type} {a b t z : List α} (h : t.Perm (a ++ z)) : (b ++ t).Perm (a ++ (b ++ z)) := (h.append_left b).trans (by rw [← List.append_assoc, ← List.append_assoc]; exact List.perm_append_comm.append_right _)
theorem pq_ra {α : Type} {a b t x : List α} (h : x.Perm (a ++ (b ++ t))) : x.Perm ((a ++ b) ++ t) := by rw [List.append_assoc]; exact h
theorem pq_la {α : Type} {a b t x : List α} (h : (a ++ (b ++ t)).Perm x) : ((a ++ b) ++ t).Perm x := by rw [List.append_assoc]; exact h
theorem pq_rc {α : Type} {a : α} {b t x : List α} (h : x.Perm (a :: (b ++ t))) : x.Perm ((a :: b) ++ t) := h
theorem pq_lc {α : Type} {a : α} {b t x : List α} (h : (a :: (b ++ t)).Perm x) : ((a :: b) ++ t).Perm x := h
theorem pq_rn {α : Type} {t x : List α} (h : x.Perm t) : x.Perm ([] ++ t) := h
theorem pq_ln {α : Type} {t x : List α} (h : t.Perm x) : ([] ++ t).Perm x := h
local macro_rules | `(tactic| ktn_no "pull") => `(tactic| with_reducible first
  | exact List.Perm.refl _
  | (apply pq_lc; ktn_no "pull") | (apply pq_ln; ktn_no "pull") | (apply pq_la; ktn_no "pull")
  | (apply pq_ee; ktn_no "pull") | (apply pq_el; ktn_no "pull") | (apply pq_le; ktn_no "pull") | (apply pq_ll; ktn_no "pull"))
local macro_rules | `(tactic| ktn_no "perm") => `(tactic| with_reducible first
  | exact List.Perm.refl _
  | (apply pq_rc; ktn_no "perm") | (apply pq_rn; ktn_no "perm") | (apply pq_ra; ktn_no "perm") | (apply pq_ln; ktn_no "perm") | (apply pq_la; ktn_no "perm")
  | (apply List.Perm.cons; ktn_no "perm") | (apply List.Perm.append_left; ktn_no "perm")
  | (apply pq_e; (case h => ktn_no "pull"); ktn_no "perm") | (apply pq_l; (case h => ktn_no "pull"); ktn_no "perm"))
local macro_rules | `(tactic| ktn_no "perm_tac") => `(tactic| first | ktn_no "perm" | ((dsimp only [List.cons_append, List.nil_append]); ktn_no "perm") | exact List.Perm.refl _ | (refine perm_of fun aPerm => ?_; simp only [List.count_cons, List.count_append, List.count_nil, List.cons_append, List.nil_append, List.append_assoc]; (first | lia | omega)))

section
variable {w : World} {B : Heap} {L : Addr} {m : PySem.Str → Option Value} {cl : List (PySem.Str × Addr)} {cm : PySem.Str → Option Value} {news news' : List (Addr × Obj)} {s₀ s : Shared}
theorem Fm.perm (F : Fm w B L cl s₀ m cm news s) (hp : news.Perm news') : Fm w B L cl s₀ m cm news' s :=
  { F with nw := fun p h => F.nw p (hp.mem_iff.mpr h), nd := (hp.map _).nodup_iff.mp F.nd, cd := fun n c e => let ⟨a, b, d⟩ := F.cd n c e; ⟨a, fun q => b ((hp.map (·.1)).mem_iff.mpr q), d⟩ }
end

noncomputable abbrev tupO (vs : List Value) : Obj := ⟨.type "tuple", none, .seq vs.toArray 0, #[]⟩
/-- pairs of strs and the tuples that hold them -/
inductive Tups : List (PySem.Str × PySem.Str) → List Value → List (Addr × Obj) → Prop
  | nil : Tups [] [] []
  | cons {f p : PySem.Str} {r vs l q t1 t2} : Tups r vs l → Tups ((f, p) :: r) (.ref q :: vs) ((q, tupO [.str f t1, .str p t2]) :: l)
theorem Tups.append : ∀ {a b va vb la lb}, Tups a va la → Tups b vb lb → Tups (a ++ b) (va ++ vb) (la ++ lb)
  | _, _, _, _, _, _, .nil, y => y
  | _, _, _, _, _, _, .cons x, y => .cons (x.append y)
theorem Tups.len : ∀ {a va la}, Tups a va la → va.length = a.length
  | _, _, _, .nil => rfl
  | _, _, _, .cons x => by simp [x.len]
theorem Tups.split : ∀ {a b v l}, Tups (a ++ b) v l → ∃ va vb la lb, v = va ++ vb ∧ l = la ++ lb ∧ Tups a va la ∧ Tups b vb lb
  | [], b, v, l, h => ⟨[], v, [], l, rfl, rfl, .nil, h⟩
  | (f, p) :: r, b, _, _, .cons x => let ⟨va, vb, la, lb, e1, e2, h1, h2⟩ := x.split; by subst e1 e2; exact ⟨_, vb, _, lb, rfl, rfl, .cons h1, h2⟩
noncomputable abbrev accM (init : Int) (t : Tok) : PySem.Str → Option Value := upd (fun _ => none) "_initial_size" (.int init t)
/-- an _Accumulator at x: its pairs and its first size; own: what it is made of -/
inductive AccP (x : Addr) (its : List (PySem.Str × PySem.Str)) (init : Int) (own : List (Addr × Obj)) : Prop
  | mk (dx : Addr) (n k : Nat) (vs : List Value) (l : List (Addr × Obj)) (es : List DictEntry) (t : Tok) (e : own = (x, accO dx vs n) :: (dx, dictOf es k) :: l) (hE : EsOk es (accM init t) 1) (hT : Tups its vs l) : AccP x its init own

local macro_rules | `(tactic| ktn_no "k_f") => `(tactic| (first | exact (by assumption)))
section
variable {w : World} {B : Heap} {L : Addr} {m : PySem.Str → Option Value} {cl : List (PySem.Str × Addr)} {cm : PySem.Str → Option Value} {own rest news : List (Addr × Obj)} {s₀ s : Shared} {A : Around} {E : Value → Shared → Prop} {Q : Value → Shared → Prop} {n : Nat} {x : Addr} {its : List (PySem.Str × PySem.Str)} {init : Int}
theorem push_spec {a b : PySem.Str} {ta tb : Tok} (R : Room (n + 5) A) (F : Fm w B L cl s₀ m cm (own ++ rest) s) (P : AccP x its init own) (hz : its.length ≤ 900)
    (h : ∀ own' s', AccP x (its ++ [(a, b)]) init own' → Fm w B L cl s₀ m cm (own' ++ rest) s' → Q .none s') :
   wpAny (M w) A (call (.ref a_Acc_push) [.ref x, .str a ta, .str b tb] []) Q E s := by
  refine call_fn (binds := [("self", .ref x), ("fws", .str a ta), ("string", .str b tb)]) (fd := fd_Acc_push) (cmF := fun _ => none) R F (lk_Acc_push _) (cd_Acc_push _) rfl (BindsTo.of_eq rfl) (by decide) (by kernel_rfl) (fun _ _ e => (by cases e)) (fun _ _ _ e => (by cases e)) ?_ rfl rfl rfl
  obtain ⟨dx, n, k, vs, l, es, t, rfl, hE, hT⟩ := P
  intro Qo hQo L' s₁ hL F₁ R₁
  obtain ⟨h₁, g₁, d₁, k₁, o₁⟩ := s₁
  have X := F₁.K
  have hx := F₁.at 0 rfl
  have hd := F₁.at 1 rfl
  ktn_no "ast"
  ktn_no "w"
  refine acc_method X hx hd hE (by ktn_no "k_ev") (by ktn_no "k_ev") (by decide +kernel) (by ktn_no "k_ev") ?_
  ktn_no "w"
  refine st_newTuple (by simp) ?_
  ktn_no "w"
  have F₂ := Fm.push F₁ (tupO [.str a ta, .str b tb]) (tk := k₁)
  have hx' := F₂.at 1 rfl
  refine acc_append F₂.K hx' (by rw [hT.len]; (first | lia | omega)) fun h' n' hs hx'' => ?_
  have F₃ := F₂.set (i := 1) rfl hs hx'' (tk := k₁)
  ktn_no "w"
  refine hQo _ _ <| Back.of (F₃.perm (news' := ((x, accO dx (vs ++ [.ref h₁.objs.size]) n') :: (dx, dictOf es k) :: (l ++ [(h₁.objs.size, tupO [.str a ta, .str b tb])])) ++ rest) ?_) fun G => h _ _ ⟨_, _, _, _, _, _, _, rfl, hE, hT.append (.cons .nil)⟩ G
  simp only [List.cons_append, List.set]
  ktn_no "perm_tac"
end
section
variable {w : World} {A : Around} {E : Value → Shared → Prop} {x so dx : Addr} {vs : List Value} {n : Nat} {h : Heap} {g : Array GenState} {d : Drawn} {tk : Nat} {os : OsState}
theorem st_own {K : Frag} {M : Model} {name : PySem.Str} {c : Value} {r : Option Value} {Q : Option Value → Shared → Prop} (X : K.In h) (e : ownIn K name c = some r) (q : Q r ⟨h, g, d, tk, os⟩) : wpAny M A (classOwn c name) Q E ⟨h, g, d, tk, os⟩ := (looks_ownIn X e).at q
theorem st_cd {K : Frag} {M : Model} {c : Addr} {r : ClassData} {Q : ClassData → Shared → Prop} (X : K.In h) (e : clsIn K c = some r) (q : Q r ⟨h, g, d, tk, os⟩) : wpAny M A (classData c) Q E ⟨h, g, d, tk, os⟩ := (looks_clsIn X e).at q
theorem st_mro {K : Frag} {M : Model} {c : Addr} {r : List Value} {Q : List Value → Shared → Prop} (X : K.In h) (e : (clsIn K c).map (·.mro) = some r) (q : Q r ⟨h, g, d, tk, os⟩) : wpAny M A (mroOf (.ref c)) Q E ⟨h, g, d, tk, os⟩ := by
  (refine x1_2 (Option.map_eq_some_iff.mp e) ?_; intro cd a b)
  subst b
  exact Looks.at ((looks_clsIn X a).andThen .now) q

theorem sup_ga {name : PySem.Str} {tn : Tok} {id : String} {Q : Fin → Shared → Prop} (X : (KF w.params).In h) (hxC : x ≠ a_Acc) (hso : h.get? so = some (ks_superObj a_Acc x a_Acc)) (hn : (name == ("__class__" : PySem.Str)) = false)
    (hc : (clsIn (KF w.params) a_Acc).map (·.mro) = some [.ref a_Acc, .type "list", .type "object"]) (ho : ownIn (KF w.params) name (.type "list") = some (some (.builtin id))) {tf g1 : Value} (ht : typeIn (KF w.params) (.builtin id) = some tf) (hg : findIn (KF w.params) tf "__get__" = some (some g1))
    (hno : nsIn (KF w.params) cStatics "thirdparty.any" = some none)
    (q : wpAny (M w) A (call g1 [.builtin id, .ref x, .ref a_Acc]) (fun v => Q (.done (.ret v))) E ⟨h, g, d, tk, os⟩) :
    wpAny (M w) A (Builtin.«super.__getattribute__» ⟨[.ref so, .str name tn], []⟩) Q E ⟨h, g, d, tk, os⟩ := by
  have hne : (Value.ref x == Value.ref a_Acc) = false := by simp [hxC]
  have hdt : (ks_superObj a_Acc x a_Acc).data = .fields #[.ref a_Acc, .ref x, .ref a_Acc] := rfl
  have f0 : (#[.ref a_Acc, .ref x, .ref a_Acc] : Array Value)[0]? = some (.ref a_Acc) := rfl
  have f1 : (#[.ref a_Acc, .ref x, .ref a_Acc] : Array Value)[1]? = some (.ref x) := rfl
  have f2 : (#[.ref a_Acc, .ref x, .ref a_Acc] : Array Value)[2]? = some (.ref a_Acc) := rfl
  have ed : (([.ref a_Acc, .type "list", .type "object"] : List Value).dropWhile (· != .ref a_Acc)).drop 1 = [.type "list", .type "object"] := by decide
  unfold Builtin.«super.__getattribute__»
  repeat (first
    | (with_reducible refine wpAny_field hso hdt f0 ?_) | (with_reducible refine wpAny_field hso hdt f1 ?_) | (with_reducible refine wpAny_field hso hdt f2 ?_)
    | (with_reducible refine ks_wpAny_notOpaque (looks_opaque X hno) ?_)
    | (with_reducible refine st_mro X hc ?_; rw [ed])
    | (with_reducible refine st_own X ho ?_)
    | (with_reducible refine st_typeK X ht ?_)
    | (with_reducible refine st_lookup X hg ?_)
    | (simp only [hn, hne, List.forIn_cons, Bool.or_false, Bool.false_eq_true, if_false])
    | (ktn_no "no_call"; wp_step)
    | (ktn_no "no_call"; dsimp only))
  refine wpAny_mono q (fun v s' hv => ?_) (fun _ _ z => z)
  repeat (first | wp_step | dsimp only)
  exact hv
noncomputable abbrev bndO (bt id : String) (x : Addr) : Obj := ⟨.type bt, none, .fields #[.builtin id, .ref x], #[]⟩
theorem wrap_get {id : String} {Q : Value → Shared → Prop} (X : (KF w.params).In h) (hx : h.get? x = some (accO dx vs n)) (ht : typeIn (KF w.params) (.builtin id) = some (.type "wrapper_descriptor"))
    (hi : subIn (KF w.params) (.ref a_Acc) (.type (".".intercalate (id.cutAt '.').dropLast)) = some true) (q : Q (.ref h.objs.size) ⟨h.push (bndO "method-wrapper" id x), g, d, tk, os⟩) :
    wpAny (M w) A (call (.builtin "wrapper_descriptor.__get__") [.builtin id, .ref x, .ref a_Acc]) Q E ⟨h, g, d, tk, os⟩ := by
  refine call_bi (i := "wrapper_descriptor.__get__") (owner := "wrapper_descriptor") (n := "__get__") (b := Builtin.«wrapper_descriptor.__get__») (by first | exact .inr (by decide +kernel) | exact .inl (by decide +kernel)) (by decide +kernel) (by decide +kernel) (entryFor_of_tree (by kernel_rfl)) (by unfold argsOk; kernel_rfl) ((looks_typeIn X ht).andThen (looks_subIn X (by ktn_no "k_ev"))) ?_
  unfold Builtin.«wrapper_descriptor.__get__»
  repeat (first | (with_reducible refine st_inst hx X hi ?_) | (ktn_no "no_call"; ktn_no "st_one"))
  exact ⟨_, rfl, q⟩
theorem meth_get {id : String} {Q : Value → Shared → Prop} (X : (KF w.params).In h) (hx : h.get? x = some (accO dx vs n)) (ht : typeIn (KF w.params) (.builtin id) = some (.type "method_descriptor")) (htc : Manifest.toldItsClass.contains id = false)
    (hi : subIn (KF w.params) (.ref a_Acc) (.type (".".intercalate (id.cutAt '.').dropLast)) = some true) (q : Q (.ref h.objs.size) ⟨h.push (bndO "builtin_function_or_method" id x), g, d, tk, os⟩) :
    wpAny (M w) A (call (.builtin "method_descriptor.__get__") [.builtin id, .ref x, .ref a_Acc]) Q E ⟨h, g, d, tk, os⟩ := by
  refine call_bi (i := "method_descriptor.__get__") (owner := "method_descriptor") (n := "__get__") (b := Builtin.«method_descriptor.__get__») (by first | exact .inr (by decide +kernel) | exact .inl (by decide +kernel)) (by decide +kernel) (by decide +kernel) (entryFor_of_tree (by kernel_rfl)) (by unfold argsOk; kernel_rfl) ((looks_typeIn X ht).andThen (looks_subIn X (by ktn_no "k_ev"))) ?_
  unfold Builtin.«method_descriptor.__get__»
  repeat (first | (with_reducible refine st_inst hx X hi ?_) | (rw [htc]) | (ktn_no "no_call"; ktn_no "st_one"))
  exact ⟨_, rfl, q⟩
theorem sup_method {name : PySem.Str} {id : String} {pl : Sem Bool} {Q : Value × List Value → Shared → Prop} {b : Value} (X : (KF w.params).In h) (hxC : x ≠ a_Acc) (hso : h.get? so = some (ks_superObj a_Acc x a_Acc)) (hn : (name == ("__class__" : PySem.Str)) = false)
    (hc : (clsIn (KF w.params) a_Acc).map (·.mro) = some [.ref a_Acc, .type "list", .type "object"]) (ho : ownIn (KF w.params) name (.type "list") = some (some (.builtin id))) {tf g1 : Value} (ht : typeIn (KF w.params) (.builtin id) = some tf) (hg : findIn (KF w.params) tf "__get__" = some (some g1))
    (hno : nsIn (KF w.params) cStatics "thirdparty.any" = some none)
    (q : wpAny (M w) A.in1 (call g1 [.builtin id, .ref x, .ref a_Acc]) (fun v s' => v = .ref h.objs.size ∧ Q (v, []) s') (fun _ _ => False) ⟨h, g, d, tk + 1, os⟩) :
    wpAny (M w) A (getMethod (.ref so) name pl) Q E ⟨h, g, d, tk, os⟩ := by
  have hlk := PySem.F.ks_slot_super_ga.lookup
  have hcan := PySem.F.ks_canon_super_ga
  have hT : ∀ t', (⟨h, g, d, t', os⟩ : Shared).TypeIs (.ref so) "super" := fun _ => ⟨_, hso, rfl⟩
  unfold getMethod
  refine wpAny_bind (wpAny_specialOf (hT _) hlk ?_)
  show wpAny _ _ (if (Manifest.canonical "super.__getattribute__" != "object.__getattribute__") = true then _ else _) _ _ _
  rw [if_pos hcan]
  unfold getAttr getAttrBy
  refine wpAny_bind (wpAny_bind (wpAny_mkText (wpAny_holding (wpAny_bind (wpAny_typeOf (hT _) (wpAny_bind (wpAny_of_eq hlk ?_)))))))
  show wpAny _ _ (getAttrByItsOwn (.ref so) (.str name tk) (.type "super") (.builtin "super.__getattribute__") true false) _ _ _
  unfold getAttrByItsOwn hookBefore callGetattribute boundAndCalled
  refine wpAny_bind (wpAny_of_eq (show (if onTheHeap (.type "super") then typeLookup (.type "super") "__getattr__" else pure none) = pure none from rfl) ?_)
  refine wpAny_bind (wpAny_attempt (wpAny_holding ?_))
  show wpAny _ _ (bindSpecial (.builtin "super.__getattribute__") (.ref so) >>= _) _ _ _
  refine wpAny_bind (wpAny_of_eq (PySem.F.ks_slot_super_ga.bind _) ?_)
  refine wpAny_mono (Q := fun v s' => v = .ref h.objs.size ∧ Q (v, []) s') (E := fun _ _ => False)
    (wpAny_call_entry PySem.F.ks_slot_super_ga (hT _) PySem.F.ks_entry_super_ga (show wpAny (model pw w) A.in1 (Builtin.«super.__getattribute__» ⟨[.ref so, .str name tk], []⟩) _ _ ⟨h, g, d, tk + 1, os⟩ from sup_ga X hxC hso hn hc ho ht hg hno (wpAny_mono q (fun v s' hv => (show ∃ v', Fin.done (Flow.ret v) = Fin.done (Flow.ret v') ∧ v' = .ref h.objs.size ∧ Q (v', []) s' from ⟨v, rfl, hv⟩)) fun _ _ z => z)) (PySem.F.ks_gaArgs_super _ _)) (fun v s' hv => ?_) fun _ _ z => z.elim
  obtain ⟨rfl, hv⟩ := hv
  exact wpAny_pure (wpAny_pure hv)
end
section
variable {w : World} {B : Heap} {L : Addr} {m : PySem.Str → Option Value} {cl : List (PySem.Str × Addr)} {cm : PySem.Str → Option Value} {news : List (Addr × Obj)} {s₀ s : Shared}
theorem Fm.new (F : Fm w B L cl s₀ m cm news s) {h' : Heap} {o : Obj} (k : ∀ b ob, s.heap.get? b = some ob → h'.get? b = some ob) (hn : h'.get? s.heap.objs.size = some o) {tk : Nat} : Fm w B L cl s₀ m cm ((s.heap.objs.size, o) :: news) { s with heap := h', toks := tk } := by
  have G := F.grow (h' := h') (tk := tk) k (Nat.le_of_lt (Heap.lt_size hn))
  have lt : ∀ {a ob}, s.heap.get? a = some ob → a ≠ s.heap.objs.size := fun e q => absurd (Heap.lt_size e) (by rw [q]; exact Nat.lt_irrefl _)
  (refine x3_2 (F.ns) ?_; intro oL es ep hL _)
  refine { G with nw := fun p hp => ?_, nd := ?_, cd := fun n c hm => ?_ }
  · rcases List.mem_cons.mp hp with rfl | hp
    · refine ⟨hn, fun e => lt hL e.symm, ?_, Nat.le_trans F.szL (Nat.le_of_lt (Heap.lt_size hL))⟩
      cases q : B.get? s.heap.objs.size with
      | none => rfl
      | some o' => exact absurd rfl (lt (F.keep _ _ q))
    · exact G.nw p hp
  · refine List.nodup_cons.mpr ⟨fun q => ?_, F.nd⟩
    (refine x1_2 (List.mem_map.mp q) ?_; intro p hp e)
    exact lt (F.nw p hp).1 e
  · (refine x0_3 (F.cd n c hm) ?_; intro a b c')
    refine ⟨a, fun q => ?_, c'⟩
    rcases List.mem_cons.mp q with e | q
    · (refine x1_2 (F.ce n c hm) ?_; intro oc hoc _)
      exact lt hoc e
    · exact b q
theorem K_lt {P : Params} {a : Addr} {o : Obj} (e : (KF P).lookup a = some o) : a < szTop := by
  have : ∀ l : List (Addr × Obj), l.all (fun p => decide (p.1 < szTop)) = true → l.lookup a = some o → a < szTop := fun l hl e => by
    induction l with
    | nil => cases e
    | cons p r ih =>
      obtain ⟨b, x⟩ := p
      simp only [List.all_cons, Bool.and_eq_true, decide_eq_true_eq] at hl
      simp only [List.lookup] at e
      split at e
      · rename_i q; rw [beq_iff_eq.mp q]; exact hl.1
      · exact ih hl.2 e
  exact this _ (by kernel_rfl) e
theorem Fm.nK (F : Fm w B L cl s₀ m cm news s) {p : Addr × Obj} (hp : p ∈ news) {a : Addr} (ha : a < szTop) : p.1 ≠ a := fun e => absurd ha (by rw [← e]; exact Nat.not_lt.mpr (F.nw p hp).2.2.2)
end

noncomputable def fileIn (K : Frag) (cd : Value) (file : PySem.Str) : Bool := match cd with
  | .ref c => (match K.lookup c with
    | some ⟨_, _, .fields vs, _⟩ => (match (vs[2]? : Option Value) with
      | some (Value.str f _) => file == f
      | _ => false)
    | _ => false)
  | _ => false

section
variable {w : World} {B : Heap} {L : Addr} {m : PySem.Str → Option Value} {cl : List (PySem.Str × Addr)} {cm : PySem.Str → Option Value} {news : List (Addr × Obj)} {s₀ s : Shared} {A : Around} {E : Value → Shared → Prop} {Q : Value → Shared → Prop}
theorem call_fn_at {n : Nat} {f : Addr} {oc : Value} {od : Option Addr} {osl : Array (Option Value)} {fd : FuncData} {body : List Stmt} {pos : List Value} {kw : List (PySem.Str × Value)} {binds : List (PySem.Str × Value)} {cmF : PySem.Str → Option Value}
    (R : Room (n + 1) A) (F : Fm w B L cl s₀ m cm news s)
    (ho : (KF w.params).lookup f = some ⟨oc, od, .func fd, osl⟩) (hcd : codeIn (KF w.params) fd.code fd.qualname = true) (hbody : fd.body = .stmts body) (hbind : BindsTo s fd ⟨pos, kw⟩ binds)
    (hcell : (fd.scope.names.all fun x => decide (x.2 ≠ .cell)) = true) (hloc : (binds.all fun x => decide (fd.scope.names.lookup x.1 = some .local)) = true)
    (hcl : ∀ n c, fd.closure.lookup n = some c → c < szTop ∧ ¬ Tab c ∧ ∃ o, (KF w.params).lookup c = some o ∧ o.data = .cell (cmF n)) (hcp : ∀ n n' c, fd.closure.lookup n = some c → fd.closure.lookup n' = some c → n = n')
    (h : ∀ Qo : Flow → Shared → Prop, (∀ fl s', Back w B L m cl cm news s₀ s Q (retV fl) s' → Qo fl s') → ∀ L' s₁, L' = s.heap.objs.size → Fm w (under s news) L' fd.closure s (bnd binds) cmF news s₁ → Room n (A.deeper (callEnv fd L' f)) →
      _root_.PySem.wpAt (M w) (A.deeper (callEnv fd L' f)) (.func body (callEnv fd L' f)) (execs body (callEnv fd L' f)) Qo (fun _ _ => False) s₁)
    (hco : fd.scope.isCoroutine = false) (hgen : fd.scope.isGenerator = false) (hk : fd.scope.kind = .function) : wpAny (M w) A (call (.ref f) pos kw) Q E s := by
  have X := F.K
  refine wpAny_call (ks_codeAny_call_defAt (fd := fd) (body := body) (binds := binds) R.lt (X _ _ ho) rfl (F.wf.nl.keeps F.keep) (codeRec_of X hcd) hbody hbind
    (fun x hx => of_decide_eq_true (List.all_eq_true.mp hcell x hx)) (locs hloc) (fun h₁ hns hk₁ => ?_) hco hgen hk)
  have hz : s.heap.objs.size < h₁.objs.size := hns.lt
  refine ks_wpAt_mono (h _ (fun _ _ x => x) s.heap.objs.size _ rfl (F.enter rfl hns hk₁ (Nat.le_of_lt hz) (fun n c e => ?_) (fun n c e => ?_) hcp) R.deeper) (fun fl s' hb => ?_) (fun _ _ x => x.elim)
  · obtain ⟨_, _, o, ho, hd⟩ := hcl n c e
    exact ⟨o, hk₁ _ _ (X _ _ ho), hd⟩
  · obtain ⟨hs, hT, o, ho, hd⟩ := hcl n c e
    refine ⟨Nat.ne_of_lt (Heap.lt_size (X _ _ ho)), fun q => ?_, hT⟩
    (refine x1_2 (List.mem_map.mp q) ?_; intro p hp e')
    exact absurd hs (by rw [← e']; exact Nat.not_lt.mpr (F.nw p hp).2.2.2)
  · cases fl <;> exact hb.go F
end
section
variable {w : World} {B : Heap} {L : Addr} {m : PySem.Str → Option Value} {cm : PySem.Str → Option Value} {news : List (Addr × Obj)} {s₀ : Shared} {A : Around} {E : Value → Shared → Prop} {Q : Value → Shared → Prop}
  {h : Heap} {g : Array GenState} {d : Drawn} {tk : Nat} {os : OsState} {x dx f cc : Addr} {vs : List Value} {n : Nat}
theorem sup_base {fd : FuncData} {oc : Value} {od : Option Addr} {osl : Array (Option Value)} {ar : Arg} {body : List Stmt} {p0 p1 : Pos} {attr : PySem.Str} {whole : Sem Value} {cdD : ClassData}
    {tk₀ : Nat} (F : Fm w B L fd.closure s₀ m cm news ⟨h, g, d, tk₀, os⟩) (hf : (KF w.params).lookup f = some ⟨oc, od, .func fd, osl⟩) (hfile : fileIn (KF w.params) fd.code (pw.main.file : PySem.Str) = true) (hp : (fd.params.posonlyargs ++ fd.params.args).head? = some ar)
    (hv : m ar.arg = some (.ref x)) (hc : fd.closure.lookup ("__class__" : PySem.Str) = some cc) (hcm : cm ("__class__" : PySem.Str) = some (.ref a_Acc)) (hx : h.get? x = some (accO dx vs n)) (hD : clsIn (KF w.params) a_Acc = some cdD) (hsub : mroIn (KF w.params) a_Acc (.ref a_Acc) = some true) (hsuper : nsIn (KF w.params) mainGlobals "super" = some none)
    (hat : (attr == ("__class__" : PySem.Str)) = false) (hks : (callEnv fd L f).kindOf ("super" : PySem.Str) = some .globalImplicit) (hkc : (callEnv fd L f).kindOf ("__class__" : PySem.Str) = some .free) (hka : (callEnv fd L f).kindOf ar.arg = some .local) (hk : fd.scope.kind = .function) (hg : fd.globals = mainGlobals) (hb : fd.builtins = builtinsNs)
    (htop : (pw.main.scope.names.lookup ("super" : PySem.Str)).isSome = false) (hboot : bootBuiltins "super" = some (.type "super"))
    (q : ∀ h', Fm w B L fd.closure s₀ m cm ((h.objs.size, ks_superObj a_Acc x a_Acc) :: news) ⟨h', g, d, tk, os⟩ → Q (.ref h.objs.size) ⟨h', g, d, tk, os⟩) :
    _root_.PySem.wpAt (M w) A (.func body (callEnv fd L f)) (attributeBase (.Call (.Name "super" p0) [] [] p1) attr (callEnv fd L f) whole) Q E ⟨h, g, d, tk, os⟩ := by
  have X := F.K
  obtain ⟨oD, hD1, hD2⟩ : ∃ oD, h.get? a_Acc = some oD ∧ oD.data = .cls cdD := by
    unfold clsIn at hD
    split at hD
    · rename_i c d cd' sl ho
      cases hD
      exact ⟨_, X _ _ ho, rfl⟩
    · cases hD
  unfold fileIn at hfile
  split at hfile
  case h_2 => cases hfile
  rename_i cda hcda
  split at hfile
  case h_2 => cases hfile
  rename_i c1 c2 vs1 c3 hoc
  split at hfile
  case h_2 => cases hfile
  rename_i fl tf hvs
  obtain ⟨mg, hmg⟩ := F.wf.g
  (refine x1_2 (F.wf.b) ?_; intro mb hmb hbb)
  refine ks_wpAt_super_base (env := callEnv fd L f) (fd := fd) hks hkc hat rfl (X _ _ hf) rfl hp hcda (X _ _ hoc) rfl hvs hfile htop ?_
  refine ks_loadName_global (env := callEnv fd L f) hk hks (loadGlobal_builtin (env := callEnv fd L f) (mg := mg) (mb := mb) (by show h.Ns fd.globals mg; rw [hg]; exact hmg.keeps F.keep) (mg_none_of F.wf.k hmg hsuper) (by show h.Ns fd.builtins mb; rw [hb]; exact hmb.keeps F.keep) ((hbb _ (by decide +kernel)).trans hboot) ⟨rfl, ?_⟩)
  refine wpAny_loadName_free (env := callEnv fd L f) hk hkc hc (hcm ▸ F.ce _ _ hc) ?_
  refine wpAny_loadName_local (env := callEnv fd L f) hk hka F.ns hv ?_
  refine ks_wpAny_isType_cls hD1 hD2 ⟨rfl, ?_⟩
  refine ks_wpAny_call_super hD1 hD2 hx rfl (fun c e => (by cases e)) (looks_mroIn X hsub) (fun h' e k => ?_)
  exact q h' (Fm.new (F.withD (d := d) (tk := tk)) (h' := h') k e (tk := tk))
theorem call_bnd {bo : Addr} {bt id : String} {Bi : Builtin} {args : List Value} (hb : h.get? bo = some (bndO bt id x)) (hbt : bt = "method-wrapper" ∨ bt = "builtin_function_or_method") (hq : plainId id = true) (hen : entryFor table id = some Bi)
    (hck : ∀ (A : Around) (Q : Unit → Shared → Prop) (E : Value → Shared → Prop), Q () ⟨h, g, d, tk, os⟩ → wpAny (M w) A (checkBoundCall id ⟨.ref x :: args, []⟩) Q E ⟨h, g, d, tk, os⟩)
    (hc : wpAny (M w) A.in1 (Bi ⟨.ref x :: args, []⟩) (fun fin s' => ∃ v, fin = .done (.ret v) ∧ Q v s') E ⟨h, g, d, tk, os⟩) : wpAny (M w) A (call (.ref bo) args) Q E ⟨h, g, d, tk, os⟩ := by
  refine wpAny_call (codeAny_of_tree ?_)
  show wpAny _ A.in1 (callAny (.ref bo) ⟨args, []⟩) _ _ _
  unfold callAny
  refine wpAny_bind (wpAny_load hb ?_)
  dsimp only
  have e1 : (Value.type bt == Value.type "method" || Value.type bt == Value.type "builtin_function_or_method" || Value.type bt == Value.type "method-wrapper") = true := by rcases hbt with rfl | rfl <;> decide
  have e2 : (Value.type bt != Value.type "method") = true := by rcases hbt with rfl | rfl <;> decide
  rw [e1, if_pos rfl]
  show wpAny _ A.in1 (if (Value.type bt != Value.type "method") = true then _ else _) _ _ _
  rw [e2, if_pos rfl]
  refine wpAny_bind (hck _ _ _ (wpAny_pure ⟨plainId_quiet hq _, codeAny_builtin hen ?_⟩))
  rw [Around.under_plainId hq _]
  refine wpAny_mono hc (fun fin s' hv => ?_) fun _ _ z => z
  (refine x1_2 (hv) ?_; try clear hv; intro v eqX1 hv; subst eqX1)
  exact hv
end
section
variable {prog : Program} {w : World} {A : Around} {c : Code} {E : Value → Shared → Prop} {s : Shared} {env : Env} {pos : Pos} {e : Expr} {rest : List Expr}
theorem mc_at {o : Expr} {name : PySem.Str} {apos : Pos} {args : List Expr} {Q : Value → Shared → Prop}
    (h : _root_.PySem.wpAt (model prog w) A c (attributeBase o name env (eval o env)) (fun ov s₁ => wpAny (model prog w) A (getMethod ov name (do return (← importBound o env).getD true)) (fun fx s₂ => wpAny (model prog w) A (callWith pos fx.1 fx.2 (backTo pos (starEach args env)) []) Q E s₂) E s₁) E s)
    (hfew : methodCallForm (args.length + ([] : List Keyword).length) (backTo pos (starEach args env)) (backToKw pos (keywordEach [] env)) = true) (hline : (apos.endLine == pos.line) = true) :
    _root_.PySem.wpAt (model prog w) A c (eval (.Call (.Attribute o name apos) args [] pos) env) Q E s := by
  rw [arm_eval_Call]
  refine _root_.PySem.wpAt_bind (_root_.PySem.wpAt_mono h (fun ov s₁ h₁ => ?_) fun _ _ e => e)
  refine _root_.PySem.wpAt_of_wpAny (wpAny_bind (wpAny_standAt ?_))
  have hpos : methodCallPos true o env apos pos = pure pos := by unfold methodCallPos; simp [hline]
  unfold methodCall
  rw [hfew]
  refine wpAny_bind (wpAny_holding (wpAny_mono h₁ (fun fx s₂ h₂ => ?_) fun _ _ e => e))
  exact wpAny_bind (wpAny_of_eq hpos h₂)
theorem cw_bnd0 {bo x : Addr} {bt id : String} {Q : Value → Shared → Prop} (hb : s.heap.get? bo = some (bndO bt id x)) (hbt : bt = "method-wrapper" ∨ bt = "builtin_function_or_method") (h : wpAny (model prog w) A (call (.ref bo) []) Q E s) :
    wpAny (model prog w) A (callWith pos (.ref bo) [] (backTo pos (starEach [] env)) []) Q E s := by
  refine callWith_of (P := fun h => h.get? bo = some (bndO bt id x)) rfl (fun h e => ⟨.machine, .inr (.inl rfl), ?_⟩) (evalArgs_nil3 ⟨hb, by simpa using h⟩)
  unfold keeperOf
  refine (Looks.ld (part := none) e).andThen ?_
  rcases hbt with rfl | rfl <;> exact .now
end
theorem clo1 {P : Params} {cl : List (PySem.Str × Addr)} {cc : Addr} {cmF : PySem.Str → Option Value} {o : Obj} (e : cl = [(("__class__" : PySem.Str), cc)]) (hK : (KF P).lookup cc = some o) (hd : o.data = .cell (cmF "__class__")) (hT : (cc == T1 || cc == T2) = false) :
    (∀ n c, cl.lookup n = some c → c < szTop ∧ ¬ Tab c ∧ ∃ o, (KF P).lookup c = some o ∧ o.data = .cell (cmF n)) ∧ (∀ n n' c, cl.lookup n = some c → cl.lookup n' = some c → n = n') := by
  subst e
  have hn : ∀ n c, ([(("__class__" : PySem.Str), cc)] : List (PySem.Str × Addr)).lookup n = some c → n = "__class__" ∧ c = cc := fun n c e => by
    simp only [List.lookup] at e
    split at e
    · rename_i q; cases e; exact ⟨beq_iff_eq.mp q, rfl⟩
    · cases e
  refine ⟨fun n c e => ?_, fun n n' c e e' => ((hn n c e).1).trans ((hn n' c e').1).symm⟩
  obtain ⟨rfl, rfl⟩ := hn n c e
  refine ⟨K_lt hK, fun t => ?_, o, hK, hd⟩
  simp only [Bool.or_eq_false_iff, beq_eq_false_iff_ne] at hT
  rcases t with rfl | rfl
  · exact hT.1 rfl
  · exact hT.2 rfl
noncomputable abbrev a_cc : Addr := (fd_Acc_part_count.closure.headD default).2
noncomputable abbrev cmC : PySem.Str → Option Value := fun n => if n = "__class__" then some (.ref a_Acc) else none
section
variable {w : World} {B : Heap} {L : Addr} {m : PySem.Str → Option Value} {cl : List (PySem.Str × Addr)} {cm : PySem.Str → Option Value} {own rest news : List (Addr × Obj)} {s₀ s : Shared} {A : Around} {E : Value → Shared → Prop} {Q : Value → Shared → Prop} {n : Nat} {x : Addr} {its : List (PySem.Str × PySem.Str)} {init : Int}
theorem cc_K (P : Params) : (KF P).lookup a_cc = some ⟨.type "cell", none, .cell (some (.ref a_Acc)), #[]⟩ := by kernel_rfl
theorem part_count_spec (R : Room (n + 5) A) (F : Fm w B L cl s₀ m cm (own ++ rest) s) (P : AccP x its init own)
    (h : ∀ t s', Fm w B L cl s₀ m cm (own ++ rest) s' → Q (.int its.length t) s') :
   wpAny (M w) A (call (.ref a_Acc_part_count) [.ref x] []) Q E s := by
  have CL := clo1 (P := w.params) (cl := fd_Acc_part_count.closure) (cc := a_cc) (cmF := cmC) (by kernel_rfl) (cc_K _) rfl (by decide)
  refine call_fn_at (binds := [("self", .ref x)]) (fd := fd_Acc_part_count) (cmF := cmC) R F (lk_Acc_part_count _) (cd_Acc_part_count _) rfl (BindsTo.of_eq rfl) (by decide) (by kernel_rfl) CL.1 CL.2 ?_ rfl rfl rfl
  obtain ⟨dx, n, k, vs, l, es, t, rfl, hE, hT⟩ := P
  intro Qo hQo L' s₁ hL F₁ R₁
  obtain ⟨h₁, g₁, d₁, k₁, o₁⟩ := s₁
  have X := F₁.K
  have hx := F₁.at 0 rfl
  have hd := F₁.at 1 rfl
  ktn_no "ast_at"
  refine ks_wpAt_execs_cons (ks_wpAt_Return_some (mc_at ?_ (by kernel_rfl) (by kernel_rfl)))
  refine sup_base (cc := a_cc) F₁ (lk_Acc_part_count _) (by kernel_rfl) (by ktn_no "k_val") (by ktn_no "k_val") (by kernel_rfl) (by kernel_rfl) hx (by ktn_no "k_ev") (by ktn_no "k_ev") (by ktn_no "k_ev") (by decide) (by kernel_rfl) (by kernel_rfl) (by kernel_rfl) rfl rfl rfl (by decide +kernel) (by first | boot_by_name | kernel_rfl) fun h₂ F₂ => ?_
  dsimp only
  have hx₂ := F₂.at 1 rfl
  have hso₂ := F₂.at 0 rfl
  refine sup_method (b := .none) F₂.K (F₂.nK (p := (x, _)) (.tail _ (.head _)) (by decide)) hso₂ (by decide) (by ktn_no "k_ev") (by ktn_no "k_ev") (by ktn_no "k_ev") (by ktn_no "k_ev") (by ktn_no "k_ev") ?_
  refine wrap_get F₂.K hx₂ (by ktn_no "k_ev") (by ktn_no "k_ev") ⟨rfl, ?_⟩
  have F₃ := Fm.push F₂ (bndO "method-wrapper" "list.__len__" x) (tk := k₁)
  have hb₃ := F₃.at 0 rfl
  have hx₃ := F₃.at 2 rfl
  dsimp only
  refine cw_bnd0 hb₃ (.inl rfl) ?_
  refine call_bnd (Bi := Builtin.«list.__len__») hb₃ (.inl rfl) (by decide +kernel) (entryFor_of_tree (by kernel_rfl)) (fun A Q E q => ?_) ?_
  · exact wpAny_of_eq (show checkBoundCall "list.__len__" ⟨[.ref x], []⟩ = pure () by kernel_rfl) q
  unfold Builtin.«list.__len__»
  ktn_no "go"
  refine ⟨_, rfl, ?_⟩
  refine hQo _ _ <| Back.of ((F₃.drop 2).toks (k₁ + 2)) fun G => ?_
  have := h (k₁ + 1) _ G
  simpa [retV, hT.len] using this
end
theorem getLastD_app {α : Type} {l : List α} {a d : α} : (l ++ [a]).getLastD d = a := by
  rw [List.getLastD_eq_getLast?]; simp
theorem chk_pop {w : World} {A : Around} {E : Value → Shared → Prop} {x dx : Addr} {vs : List Value} {n : Nat} {h : Heap} {g : Array GenState} {d : Drawn} {tk : Nat} {os : OsState} {Q : Unit → Shared → Prop} (X : (KF w.params).In h) (hx : h.get? x = some (accO dx vs n)) (q : Q () ⟨h, g, d, tk, os⟩) :
    wpAny (M w) A (checkBoundCall "list.pop" ⟨[.ref x], []⟩) Q E ⟨h, g, d, tk, os⟩ := by
  obtain ⟨S, hS, hc⟩ : ∃ S, Manifest.signature? "list.pop" = some S ∧ Bind.checkArgs "list.pop" { S with full := "_Accumulator.pop" } ⟨[.ref x], []⟩ = pure () := ⟨_, by ktn_no "k_ev", by kernel_rfl⟩
  have hk : builtinKind "list.pop" = some .method := by decide +kernel
  have hv : Manifest.varargsMethods.contains "list.pop" = false := by decide +kernel
  unfold checkBoundCall
  rw [hS]
  dsimp only
  rw [hk]
  dsimp only
  rw [if_neg (by decide)]
  refine wpAny_bind (st_inst hx X (by ktn_no "k_ev") ?_)
  rw [hv, if_neg (by decide)]
  refine wpAny_bind (ks_wpAny_isType_inst hx (fun c e => by cases e) ?_)
  rw [if_neg (by decide)]
  refine wpAny_bind (st_type hx ?_)
  dsimp only
  obtain ⟨cd, hcd, hqn⟩ : ∃ cd, clsIn (KF w.params) a_Acc = some cd ∧ (toString cd.qualname.toString ++ toString "." ++ toString (Bind.lastOf "list.pop")) = "_Accumulator.pop" := ⟨_, by ktn_no "k_ev", by kernel_rfl⟩
  refine wpAny_bind (st_cd X hcd ?_)
  rw [hqn]
  refine wpAny_bind (st_typeK X (by ktn_no "k_ev") ?_)
  rw [if_pos (by decide)]
  exact wpAny_of_eq hc q
theorem Tups.one {f p : PySem.Str} {v : List Value} {l : List (Addr × Obj)} (h : Tups [(f, p)] v l) : ∃ q t1 t2, v = [.ref q] ∧ l = [(q, tupO [.str f t1, .str p t2])] := by
  cases h with
  | cons h => cases h; exact ⟨_, _, _, rfl, rfl⟩
section
variable {w : World} {B : Heap} {L : Addr} {m : PySem.Str → Option Value} {cl : List (PySem.Str × Addr)} {cm : PySem.Str → Option Value} {own rest news : List (Addr × Obj)} {s₀ s : Shared} {A : Around} {E : Value → Shared → Prop} {Q : Value → Shared → Prop} {n : Nat} {x : Addr} {its : List (PySem.Str × PySem.Str)} {init : Int}
theorem pop_spec (R : Room (n + 12) A) (F : Fm w B L cl s₀ m cm (own ++ rest) s) (P : AccP x its init own) (hz : its.length ≤ 900)
    (h : ∀ own' q t1 t2 s', AccP x its.dropLast init own' → Fm w B L cl s₀ m cm ((q, tupO [.str (its.getLastD ("", "")).1 t1, .str (its.getLastD ("", "")).2 t2]) :: own' ++ rest) s' → Q (.ref q) s') :
   wpAny (M w) A (call (.ref a_Acc_pop) [.ref x] []) Q E s := by
  have CL := clo1 (P := w.params) (cl := fd_Acc_pop.closure) (cc := a_cc) (cmF := cmC) (by kernel_rfl) (cc_K _) rfl (by decide)
  refine call_fn_at (binds := [("self", .ref x)]) (fd := fd_Acc_pop) (cmF := cmC) R F (lk_Acc_pop _) (cd_Acc_pop _) rfl (BindsTo.of_eq rfl) (by decide) (by kernel_rfl) CL.1 CL.2 ?_ rfl rfl rfl
  intro Qo hQo L' s₁ hL F₁ R₁
  obtain ⟨h₁, g₁, d₁, k₁, o₁⟩ := s₁
  have X := F₁.K
  have P₀ := P
  obtain ⟨dx, nn, k, vs, l, es, t, rfl, hE, hT⟩ := P
  have hx := F₁.at 0 rfl
  have hd := F₁.at 1 rfl
  ktn_no "ast_at"
  refine ks_wpAt_execs_cons (_root_.PySem.wpAt_of_wpAny ?_)
  ktn_no "w"
  refine acc_method X hx hd hE (by ktn_no "k_ev") (by ktn_no "k_ev") (by decide +kernel) (by ktn_no "k_ev") ?_
  dsimp only
  refine cw_f0 X (by kernel_rfl) ?_
  refine part_count_spec (n := n + 6) (R₁.less (by ktn_no "le")) F₁ P₀ fun t' s' F₂ => ?_
  obtain ⟨h₂, g₂, d₂, k₂, o₂⟩ := s'
  ktn_no "w"
  have hx₂ := F₂.at 0 rfl
  have hd₂ := F₂.at 1 rfl
  rcases List.eq_nil_or_concat its with rfl | ⟨its0, ⟨f, p⟩, rfl⟩
  · cases hT
    rw [if_pos (by decide)]
    ktn_no "w"
    refine st_newTuple (by simp) ?_
    refine hQo _ _ <| Back.of (Fm.push F₂ _ (tk := _)) fun G => ?_
    exact h [(x, accO dx [] nn), (dx, dictOf es k)] h₂.objs.size _ _ _ ⟨_, _, _, _, _, _, _, rfl, hE, .nil⟩ G
  · rw [List.concat_eq_append] at *
    rw [if_neg (by simp; (first | lia | omega))]
    ktn_no "w"
    (refine x4_4 (hT.split) ?_; intro va vb la lb eqX4 eqX5 h1 h2; subst eqX4; subst eqX5)
    (refine x3_2 (h2.one) ?_; intro q t1 t2 eqX3 eqX4; subst eqX3; subst eqX4)
    have hla := h1.len
    simp only [List.length_append, List.length_singleton] at hz
    dsimp only
    ktn_no "ast_at"
    refine ks_wpAt_execs_cons (ks_wpAt_Return_some (mc_at ?_ (by kernel_rfl) (by kernel_rfl)))
    refine sup_base (cc := a_cc) F₂ (lk_Acc_pop _) (by kernel_rfl) (by ktn_no "k_val") (by ktn_no "k_val") (by kernel_rfl) (by kernel_rfl) hx₂ (by ktn_no "k_ev") (by ktn_no "k_ev") (by ktn_no "k_ev") (by decide) (by kernel_rfl) (by kernel_rfl) (by kernel_rfl) rfl rfl rfl (by decide +kernel) (by first | boot_by_name | kernel_rfl) fun h₃ F₃ => ?_
    dsimp only
    have hx₃ := F₃.at 1 rfl
    have hso₃ := F₃.at 0 rfl
    refine sup_method (b := .none) F₃.K (F₃.nK (p := (x, _)) (.tail _ (.head _)) (by decide)) hso₃ (by decide) (by ktn_no "k_ev") (by ktn_no "k_ev") (by ktn_no "k_ev") (by ktn_no "k_ev") (by ktn_no "k_ev") ?_
    refine meth_get F₃.K hx₃ (by ktn_no "k_ev") (by decide +kernel) (by ktn_no "k_ev") ⟨rfl, ?_⟩
    have F₄ := Fm.push F₃ (bndO "builtin_function_or_method" "list.pop" x) (tk := k₂ + 1)
    have hb₄ := F₄.at 0 rfl
    have hx₄ := F₄.at 2 rfl
    dsimp only
    refine cw_bnd0 hb₄ (.inr rfl) ?_
    refine call_bnd (Bi := Builtin.«list.pop») hb₄ (.inr rfl) (by decide +kernel) (entryFor_of_tree (by kernel_rfl)) (fun A Q E q => ?_) ?_
    · exact chk_pop F₄.K hx₄ q
    refine acc_pop_b hx₄ (by ktn_no "om") fun h' n' hs hx' => ?_
    have F₅ := ((F₄.set (i := 2) rfl hs hx' (tk := k₂ + 1)).drop 2)
    refine hQo _ _ <| Back.of (Fm.toks (F₅.perm (news' := (q, tupO [.str f t1, .str p t2]) :: ((x, accO dx va n') :: (dx, dictOf es k) :: la) ++ rest) ?_) _) fun G => ?_
    · simp only [List.cons_append, List.set, List.drop]
      ktn_no "perm_tac"
    · refine h ((x, accO dx va n') :: (dx, dictOf es k) :: la) q t1 t2 _ ⟨_, _, _, _, _, _, _, rfl, hE, ?_⟩ ?_
      · simpa using h1
      · rw [getLastD_app]; simpa using G
end
noncomputable abbrev itO (x : Addr) (i : Nat) : Obj := ⟨.type "list_iterator", none, .fields #[.ref x, .int i 0], #[]⟩
section
variable {w : World} {A : Around} {E : Value → Shared → Prop} {x dx I : Addr} {vs : List Value} {n : Nat} {h : Heap} {g : Array GenState} {d : Drawn} {tk : Nat} {os : OsState}
theorem it_next {o : Obj} {Q : Option Value → Shared → Prop} {i : Nat} {v : Value} (hI : h.get? I = some (itO x i)) (hx : h.get? x = some o) (hd : o.data = .seq vs.toArray n) (hv : vs[i]? = some v)
    (q : ∀ h', Heap.SameBut I h h' → h'.get? I = some (itO x (i + 1)) → Q (some v) ⟨h', g, d, tk, os⟩) : wpAny (M w) A (pyNext (.ref I)) Q E ⟨h, g, d, tk, os⟩ := by
  have hT : Shared.TypeIs ⟨h, g, d, tk, os⟩ (.ref I) "list_iterator" := ⟨_, hI, rfl⟩
  have hv' : vs.toArray[i]? = some v := by simpa using hv
  unfold pyNext
  refine wpAny_bind (wpAny_attempt (wpAny_callSpecial?_slot (name := Str.ofString "__next__") hT slot_listiter_next (wpAny_call_entry slot_listiter_next hT entry_listiter_next ?_ (args_listiter_next _))))
  show wpAny _ _ (field (.ref I) 0 >>= _) _ _ _
  refine wpAny_bind (wpAny_field hI rfl (x := .ref x) rfl ?_)
  show wpAny _ _ (if (Value.ref x == Value.none) = true then _ else _) _ _ _
  rw [if_neg (show ¬ ((Value.ref x == Value.none) = true) from Bool.false_ne_true)]
  show wpAny _ _ (field (.ref I) 1 >>= _) _ _ _
  refine wpAny_bind (wpAny_field hI rfl (x := .int i 0) rfl ?_)
  show wpAny _ _ (seqItems? (.ref x) >>= _) _ _ _
  refine wpAny_bind (wpAny_seqItems hx hd ?_)
  simp only [Int.toNat_natCast, hv']
  exact wpAny_bind (wpAny_setField_rec hI (by simp) fun h' e s => wpAny_pure ⟨v, rfl, wpAny_pure (q h' s (by rw [e]; simp [rawInt]))⟩)
theorem it_end {o : Obj} {Q : Option Value → Shared → Prop} {i : Nat} (hh : A.handled = none) (hI : h.get? I = some (itO x i)) (hx : h.get? x = some o) (hd : o.data = .seq vs.toArray n) (hv : vs.length ≤ i)
    (q : ∀ h', (∀ b ob, b ≠ I → h.get? b = some ob → h'.get? b = some ob) → Q none ⟨h', g, d, tk, os⟩) : wpAny (M w) A (pyNext (.ref I)) Q E ⟨h, g, d, tk, os⟩ := by
  have hT : Shared.TypeIs ⟨h, g, d, tk, os⟩ (.ref I) "list_iterator" := ⟨_, hI, rfl⟩
  have hv' : vs.toArray[i]? = none := by simpa using hv
  unfold pyNext
  refine wpAny_bind (wpAny_attempt (wpAny_callSpecial?_slot (name := Str.ofString "__next__") hT slot_listiter_next (wpAny_call_entry slot_listiter_next hT entry_listiter_next ?_ (args_listiter_next _))))
  show wpAny _ _ (field (.ref I) 0 >>= _) _ _ _
  refine wpAny_bind (wpAny_field hI rfl (x := .ref x) rfl ?_)
  show wpAny _ _ (if (Value.ref x == Value.none) = true then _ else _) _ _ _
  rw [if_neg (show ¬ ((Value.ref x == Value.none) = true) from Bool.false_ne_true)]
  show wpAny _ _ (field (.ref I) 1 >>= _) _ _ _
  refine wpAny_bind (wpAny_field hI rfl (x := .int i 0) rfl ?_)
  show wpAny _ _ (seqItems? (.ref x) >>= _) _ _ _
  refine wpAny_bind (wpAny_seqItems hx hd ?_)
  simp only [Int.toNat_natCast, hv']
  refine wpAny_bind (wpAny_rule (wpAny_bind (wpAny_setField_rec hI (by simp) fun h' e s => ?_)))
  show wpAny _ _ (newExc (.type "StopIteration") [] >>= _) _ _ _
  refine wpAny_bind ?_
  simp only [newExc, newTuple]
  refine wpAny_bind (wpAny_newObj_type ?_ (by size_fits))
  refine wpAny_bind (m := firstArgMember _ _) (wpAny_of_eq (a := Value.none) (by first | rfl | (simp only [firstArgMember]; rfl)) ?_)
  refine wpAny_newObj_type ?_ (by size_fits)
  simp only [raiseNew]
  refine wpAny_bind (wpAny_handled ?_)
  rw [show A.in1.handled = none from hh]
  refine wpAny_bind (wpAny_pure (wpAny_throw ?_))
  refine wpAny_bind (wpAny_isInstance (T := "StopIteration") (b := true) ⟨_, Heap.get?_push_size _ rfl, rfl⟩ isSubtype_stop ?_)
  exact wpAny_pure (q _ fun b ob hb e => Heap.get?_push_of_some _ (Heap.get?_push_of_some _ ((s.2 b hb).trans e)))
end
theorem Tups.get {its : List (PySem.Str × PySem.Str)} {vs : List Value} {l : List (Addr × Obj)} (h : Tups its vs l) : ∀ {i : Nat} {f p : PySem.Str}, its[i]? = some (f, p) → ∃ (q : Addr) (t1 t2 : Tok), vs[i]? = some (Value.ref q) ∧ (q, tupO [.str f t1, .str p t2]) ∈ l := by
  induction h with
  | nil => intro i f p e; simp at e
  | cons x ih =>
    intro i f p e
    cases i with
    | zero => simp at e; obtain ⟨rfl, rfl⟩ := e; exact ⟨_, _, _, rfl, .head _⟩
    | succ i =>
      (refine x3_2 (ih (i := i) (by simpa using e)) ?_; intro q t1 t2 a b)
      exact ⟨q, t1, t2, by simpa using a, .tail _ b⟩
section
variable {w : World} {x dx I : Addr} {vs : List Value} {n : Nat} {its : List (PySem.Str × PySem.Str)} {l : List (Addr × Obj)}
noncomputable def aSt (x I dx : Addr) (vs : List Value) (n : Nat) (l : List (Addr × Obj)) (i : Nat) (h : Heap) : Prop := h.get? I = some (itO x i) ∧ h.get? x = some (accO dx vs n) ∧ ∀ p ∈ l, h.get? p.1 = some p.2
noncomputable def aPt (its : List (PySem.Str × PySem.Str)) (i : Nat) (vals : Array Value) : Prop := ∃ f p t1 t2, its[i]? = some (f, p) ∧ vals = #[.str f t1, .str p t2]
theorem acc_walks (hT : Tups its vs l) (hxI : x ≠ I) (hlI : ∀ p ∈ l, p.1 ≠ I) (A : Around) (hh : A.handled = none) :
    WalksU pw w A I (I :: x :: l.map (·.1)) [I] its.length (aPt its) (aSt x I dx vs n l) (fun i T h => aSt x I dx vs n l (i + 1) h ∧ T ≠ I) where
  sub := fun b hb => by simp at hb; subst hb; exact .head _
  frame := fun i h h' ⟨a, b, c⟩ k => ⟨k _ (.head _) _ a, k _ (.tail _ (.head _)) _ b, fun p hp => k _ (.tail _ (.tail _ (List.mem_map_of_mem hp))) _ (c p hp)⟩
  item := fun i s Q E hi ⟨a, b, c⟩ hQ => by
    obtain ⟨⟨f, p⟩, hfp⟩ : ∃ y, its[i]? = some y := ⟨_, List.getElem?_eq_getElem hi⟩
    (refine x3_2 (hT.get hfp) ?_; intro q t1 t2 e1 e2)
    obtain ⟨h, g, d, tk, os⟩ := s
    refine it_next a b rfl e1 fun h' hs hI' => hQ q #[.str f t1, .str p t2] h' tk ⟨f, p, t1, t2, hfp, rfl⟩ ⟨_, (hs.2 _ (hlI _ e2)).trans (c _ e2), rfl, _, rfl⟩ ⟨⟨hI', (hs.2 _ hxI).trans b, fun p hp => (hs.2 _ (hlI _ hp)).trans (c p hp)⟩, hlI _ e2⟩ (fun y o hy e => (hs.2 y (by simpa using hy)).trans e)
  go := fun elts k pos i T s Q E ⟨⟨a, b, c⟩, hne⟩ hQ => wpAny_letOwnedTupleGo_listiter (l := x) (i := i + 1) ⟨_, a, rfl, rfl⟩ (hQ s.heap ⟨a, b, c⟩ fun _ _ _ e => e)
  apart := fun i T h hm => by simpa using hm.2
  done := fun s Q E ⟨a, b, c⟩ hQ => by
    obtain ⟨h, g, d, tk, os⟩ := s
    exact it_end hh a b rfl (by rw [hT.len]; exact Nat.le_refl _) fun h' k => hQ h' tk fun y o hy e => k y o (by simpa using hy) e
  self := fun i s Q E ⟨a, b, c⟩ hQ => wpAny_pyIter_listiter (l := x) (i := i) ⟨_, a, rfl, rfl⟩ hQ
end
section
variable {w : World} {A : Around} {E : Value → Shared → Prop} {x dx I : Addr} {vs : List Value} {n : Nat} {h : Heap} {g : Array GenState} {d : Drawn} {tk : Nat} {os : OsState}
theorem st_ifBound {ox : Obj} {name : PySem.Str} {f tf : Value} {Q : Option (Value × List Value) → Shared → Prop} (X : (KF w.params).In h) (hx : h.get? x = some ox) (e : findIn (KF w.params) ox.cls name = some (some f)) (ht : typeIn (KF w.params) f = some tf)
    (h3 : (tf == .type "function" || tf == .type "method_descriptor" || tf == .type "wrapper_descriptor") = true) (q : Q (some (f, [.ref x])) ⟨h, g, d, tk, os⟩) : wpAny (M w) A (bindSpecialIfBound? (.ref x) name) Q E ⟨h, g, d, tk, os⟩ := by
  unfold bindSpecialIfBound?
  refine wpAny_bind (st_special hx X e ?_)
  dsimp only
  refine wpAny_bind (wpAny_askSetting ?_)
  have b : wpAny (M w) A (do return some (← bindSpecial f (.ref x))) Q E ⟨h, g, d, tk, os⟩ := wpAny_bind (st_bindS X ht h3 (wpAny_pure q))
  split
  · exact b
  · exact wpAny_tryCatch (wpAny_bind (st_bindS X ht h3 (wpAny_pure q)))
theorem acc_pyIter {Q : Value → Shared → Prop} (X : (KF w.params).In h) (hx : h.get? x = some (accO dx vs n))
    (q : Q (.ref h.objs.size) ⟨h.push (itO x 0), g, d, tk, os⟩) : wpAny (M w) A (pyIter (.ref x)) Q E ⟨h, g, d, tk, os⟩ := by
  unfold pyIter
  refine wpAny_bind (st_special hx X (by ktn_no "k_ev") ?_)
  dsimp only
  refine wpAny_bind ?_
  unfold callSpecialIfBoundUnlessNone?
  refine wpAny_holding (wpAny_bind (st_ifBound X hx (by ktn_no "k_ev") (by ktn_no "k_ev") (by decide) ?_))
  dsimp only
  rw [if_neg (by decide)]
  refine wpAny_bind (acc_iter X hx (wpAny_pure ?_))
  dsimp only
  have hI : (h.push (itO x 0)).get? h.objs.size = some (itO x 0) := Heap.get?_push_size _ rfl
  refine wpAny_bind (st_special hI (pushIn X) (by ktn_no "k_ev") ?_)
  exact wpAny_pure q
end
/-- what a heap says of the module's names -/
structure Gl (w : World) (h : Heap) : Prop where
  k : (KF w.params).In h
  g : ∃ mg, h.Ns mainGlobals mg
  b : ∃ mb, h.Ns builtinsNs mb ∧ ∀ x : PySem.Str, x ≠ "__name__" → mb x = bootBuiltins x
theorem WfB.gl {w : World} {B h : Heap} (W : WfB w B) (k : ∀ b o, B.get? b = some o → h.get? b = some o) : Gl w h :=
  ⟨W.k.keeps k, let ⟨mg, a⟩ := W.g; ⟨mg, a.keeps k⟩, let ⟨mb, a, r⟩ := W.b; ⟨mb, a.keeps k, r⟩⟩
theorem TabOk.part {h h' : Heap} (x : TabOk h) (k : ∀ b o, b < szTop → h.get? b = some o → h'.get? b = some o) : TabOk h' := by
  obtain ⟨⟨ps, a, b⟩, ⟨qs, c, d⟩⟩ := x
  refine ⟨⟨ps, ?_, ?_⟩, ⟨qs, ?_, ?_⟩⟩
  · obtain ⟨o, vs, file, tf, flags, tg, inF, text, tt, op, e1, r1, r2, r3, r4, r5, r6, e2, r⟩ := a
    exact ⟨o, vs, file, tf, flags, tg, inF, text, tt, op, k _ _ (by decide) e1, r1, r2, r3, r4, r5, r6, k _ _ (by decide) e2, r⟩
  · obtain ⟨⟨o, vs, e1, r⟩, e2⟩ := b
    exact ⟨⟨o, vs, k _ _ (by decide) e1, r⟩, k _ _ (by decide) e2⟩
  · obtain ⟨o, vs, file, tf, flags, tg, inF, text, tt, op, e1, r1, r2, r3, r4, r5, r6, e2, r⟩ := c
    exact ⟨o, vs, file, tf, flags, tg, inF, text, tt, op, k _ _ (by decide) e1, r1, r2, r3, r4, r5, r6, k _ _ (by decide) e2, r⟩
  · obtain ⟨⟨o, vs, e1, r⟩, e2⟩ := d
    exact ⟨⟨o, vs, k _ _ (by decide) e1, r⟩, k _ _ (by decide) e2⟩
/-- the tables have grown, all else stands -/
structure Grow (h h' : Heap) : Prop where
  k : ∀ b o, ¬ Tab b → h.get? b = some o → h'.get? b = some o
  tg : ∀ t, Tab t → ∀ ps, h.get? t = some (tableObj ps) → ∃ more, h'.get? t = some (tableObj (ps ++ more))
  tb : TabOk h'
section
variable {M : Model} {A : Around} {E : Value → Shared → Prop} {h : Heap} {g : Array GenState} {d : Drawn} {tk : Nat} {os : OsState}
theorem code_grow {env : Env} {c t : Addr} {pos : Pos} {qn : PySem.Str} {scope : Scope} {Q : Value → Shared → Prop} (hc : env.code = .ref c) (hct : (c = C1 ∧ t = T1) ∨ (c = C2 ∧ t = T2)) (T : TabOk h)
    (q : ∀ code h' tk', Grow h h' → Q code ⟨h', g, d, tk', os⟩) : wpAny M A (genexprCode env pos qn scope) Q E ⟨h, g, d, tk, os⟩ := by
  have refl : Grow h h := ⟨fun _ _ _ e => e, fun _ _ ps e => ⟨#[], by simpa using e⟩, T⟩
  have main : ∀ (c t : Addr) (ps : Array Value), h.IsCode c t ps → h.TableAt c t ps → env.code = .ref c → Tab t → (∀ h' ps', Heap.ExtBut t h h' → h'.IsCode c t ps' → h'.TableAt c t ps' → TabOk h') → wpAny M A (genexprCode env pos qn scope) Q E ⟨h, g, d, tk, os⟩ := by
    intro c t ps hi ht hc tt tbk
    cases hca : codeAmong pos ps.toList with
    | some c' => exact wpAny_genexprCode_hit hc hi hca (q _ _ _ refl)
    | none =>
      refine wpAny_genexprCodeX (s := ⟨h, g, d, tk, os⟩) hc hi ht hca fun c' h' tk' hx _ _ hi' _ ht' _ => q _ h' tk' ⟨fun b o nb e => hx b o (fun z => nb (z ▸ tt)) e, fun t' tt' ps' e => ?_, tbk h' _ hx hi' ht'⟩
      by_cases z : t' = t
      · subst z
        have e1 := ht.2
        rw [e] at e1
        have e2 : ps' = ps := by
          have := Option.some.inj e1
          unfold tableObj at this
          injection this with _ _ z1 _
          injection z1
        subst e2
        exact ⟨_, ht'.2⟩
      · exact ⟨#[], by simpa using hx t' _ z e⟩
  rcases hct with ⟨rfl, rfl⟩ | ⟨rfl, rfl⟩
  · (refine x1_2 (T.a) ?_; intro ps a b)
    exact main _ _ ps a b hc (.inl rfl) fun h' ps' hx hi' ht' => ⟨⟨ps', hi', ht'⟩, let ⟨qs, p, q⟩ := T.b; ⟨qs, p.extBut hx (by decide) (by decide), q.extBut hx (by decide) (by decide)⟩⟩
  · (refine x1_2 (T.b) ?_; intro ps a b)
    exact main _ _ ps a b hc (.inr rfl) fun h' ps' hx hi' ht' => ⟨let ⟨qs, p, q⟩ := T.a; ⟨qs, p.extBut hx (by decide) (by decide), q.extBut hx (by decide) (by decide)⟩, ⟨ps', hi', ht'⟩⟩
end
theorem passing_true' (n : Nat) : passing (fun _ => true) n 0 = List.range n := by
  unfold passing; rw [List.drop_zero]; exact List.filter_eq_self.mpr fun _ _ => rfl
theorem WalksS.weak {prog : Program} {w : World} {A : Around} {I : Addr} {fp wr : List Addr} {G : Array GenState → Array GenState → Prop} {n : Nat} {P P' : Nat → Value → Prop} {St : Nat → Shared → Prop}
    (W : WalksS prog w A I fp wr G n P St) (hP : ∀ i v, P i v → P' i v) : WalksS prog w A I fp wr G n P' St where
  sub := W.sub
  grefl := W.grefl
  gtrans := W.gtrans
  frame := W.frame
  item := fun i s Q E hi st hQ => W.item i s Q E hi st fun v s' hv => hQ v s' (hP i v hv)
  done := W.done
  self := W.self
section
variable {w : World} {B : Heap} {L : Addr} {m : PySem.Str → Option Value} {cl : List (PySem.Str × Addr)} {cm : PySem.Str → Option Value} {news : List (Addr × Obj)} {s₀ : Shared} {A : Around} {E : Value → Shared → Prop} {Q : Value → Shared → Prop}
  {h : Heap} {g : Array GenState} {d d₀ : Drawn} {tk tk₀ : Nat} {os : OsState} {x dx : Addr} {vs : List Value} {n : Nat} {its : List (PySem.Str × PySem.Str)} {l : List (Addr × Obj)}
theorem gen_acc {k : Nat} {env : Env} {elt iter : Expr} {xa xb : PySem.Str} {pa pb pt : Pos} {kt : Nat} {scope : Scope} {pos : Pos} {c t : Addr} (Fv : Nat → Value → Prop)
    (R : Room (k + 5) A) (F : Fm w B L cl s₀ m cm news ⟨h, g, d₀, tk₀, os⟩) (hT : Tups its vs l) (hm : (x, accO dx vs n) ∈ news) (hlm : ∀ p ∈ l, p ∈ news)
    (hc : env.code = .ref c) (hct : (c = C1 ∧ t = T1) ∨ (c = C2 ∧ t = T2)) (hgl : env.globals = mainGlobals)
    (hco : scope.isCoroutine = false) (hclos : closureFor scope env = pure []) (hcell : ∀ y ∈ scope.names, y.2 ≠ .cell) (h0 : scope.names.lookup (".0" : PySem.Str) = some NameKind.local)
    (hxa : scope.names.lookup xa = some .local) (hxb : scope.names.lookup xb = some .local) (hab : xa ≠ xb) (hkind : scope.kind = .function)
    (hi : ∀ Q : Value → Shared → Prop, Q (.ref x) ⟨h, g, d, tk, os⟩ → wpAny (M w) A (eval iter env) Q E ⟨h, g, d, tk, os⟩) (hs : ∀ x, genFold iter env x = pure x)
    (helt : ∀ (A' : Around) E' i f p t1 t2 (s₂ : Shared) m₂ C code, A'.handled = none → A'.depth ≤ A.depth + 1 → A'.units ≤ A.units + 8 → its[i]? = some (f, p) → Gl w s₂.heap → s₂.heap.Ns C m₂ → m₂ xa = some (.str f t1) → m₂ xb = some (.str p t2) →
      wpAny (M w) A' (eval elt (genEnv scope [] C code builtinsNs env)) (fun y s₃ => Fv i y ∧ Keeps s₂ s₃) E' s₂)
    (q : ∀ a fp wr G St s', WalksS pw w A.in4 a fp wr G its.length Fv St → St 0 s' → (∀ b ∈ fp, b < s'.heap.objs.size) → a ∈ fp → (∀ i s, St i s → s.TypeIs (.ref a) "generator") → (∀ s'', Moved wr G s' s'' → Fm w B L cl s₀ m cm news s'') → (∀ b ∈ wr, h.get? b = none) → (∀ b o, ¬ Tab b → h.get? b = some o → s'.heap.get? b = some o) → Q (.ref a) s') :
    wpAny (M w) A (eval (.GeneratorExp elt [⟨.Tuple [.Name xa pa, .Name xb pb] kt pt, iter, [], 0⟩] scope pos) env) Q E ⟨h, g, d, tk, os⟩ := by
  have X := F.K
  have hx : h.get? x = some (accO dx vs n) := (F.nw _ hm).1
  have hl : ∀ p ∈ l, h.get? p.1 = some p.2 := fun p hp => (F.nw _ (hlm p hp)).1
  have big : ∀ {b : Addr}, szTop ≤ b → ¬ Tab b := fun hb z => absurd (tab_lt z) (Nat.not_lt.mpr hb)
  have hsz : szTop ≤ h.objs.size := Nat.le_trans F.szL (Nat.le_of_lt F.ns.lt)
  refine wpAny_GeneratorExp_walksQTD R.handled hco hclos hcell h0 hxa hxb hab hkind R.lt (hi _ (acc_pyIter X hx ⟨(F.wf.nl.keeps F.keep).push _, ?_⟩)) hs
  have T₂ : TabOk (h.push (itO x 0)) := F.tb.keeps fun b o e => Heap.get?_push_of_some _ e
  refine code_grow hc hct T₂ fun code h₃ tk₃ G₃ => ?_
  have hsz₃ : h.objs.size < h₃.objs.size := Heap.lt_size (G₃.k _ _ (fun z => absurd (tab_lt z) (Nat.not_lt.mpr (Nat.le_trans F.szL (Nat.le_of_lt F.ns.lt)))) (Heap.get?_push_size (o := itO x 0) _ rfl))
  have k₃ : ∀ b o, ¬ Tab b → h.get? b = some o → h₃.get? b = some o := fun b o nb e => G₃.k b o nb (Heap.get?_push_of_some _ e)
  have nB : ∀ b o, B.get? b = some o → ¬ Tab b := fun b o e z => by rcases z with rfl | rfl <;> first | (rw [F.wf.t1] at e; cases e) | (rw [F.wf.t2] at e; cases e)
  have kB : ∀ b o, B.get? b = some o → h₃.get? b = some o := fun b o e => k₃ b o (nB b o e) (F.keep b o e)
  (refine x3_7 (F.wf.bm) ?_; intro mg bm ob hg1 hg2 hg3 hg4 hg5 hg6 hg7)
  rw [hgl]
  refine wpAny_builtinsFor (hg1.keeps kB) hg2 hg3 (kB _ _ hg4) hg5 hg6 hg7 ?_
  have hI : h₃.get? h.objs.size = some (itO x 0) := G₃.k _ _ (big hsz) (Heap.get?_push_size _ rfl)
  have x₃ : h₃.get? x = some (accO dx vs n) := k₃ _ _ (big (F.nw _ hm).2.2.2) hx
  have l₃ : ∀ p ∈ l, h₃.get? p.1 = some p.2 := fun p hp => k₃ _ _ (big (F.nw _ (hlm p hp)).2.2.2) (hl p hp)
  have hxI : x ≠ h.objs.size := Nat.ne_of_lt (Heap.lt_size hx)
  have hlI : ∀ p ∈ l, p.1 ≠ h.objs.size := fun p hp => Nat.ne_of_lt (Heap.lt_size (hl p hp))
  refine ⟨h.objs.size, h.objs.size :: x :: l.map (·.1), [h.objs.size], its.length, aPt its, aSt x h.objs.size dx vs n l, _, fun _ => true, Fv, rfl, fun A' hA => acc_walks hT hxI hlI A' hA, fun i vals ⟨f, p, t1, t2, _, e⟩ => ⟨_, _, e⟩, ⟨hI, x₃, l₃⟩, fun b hb => ?_, F.wf.nl.keeps kB, fun hb => ?_, fun href hk => ⟨fun A' E' i va vb s₂ m₂ _ _ _ _ _ _ _ _ => ?_, fun A' E' i va vb s₂ m₂ hh hd hu hP _ hn ha hb hk2 => ?_⟩, fun a h₅ tk₅ gs hb ha hsz₅ hk5 W G => ?_⟩
  · rcases List.mem_cons.mp hb with rfl | hb
    · exact hsz₃
    · rcases List.mem_cons.mp hb with rfl | hb
      · exact Heap.lt_size x₃
      · (refine x1_2 (List.mem_map.mp hb) ?_; intro p hp eqX2; subst eqX2)
        exact Heap.lt_size (l₃ p hp)
  · have : cStatics < szTop := by decide
    have e : cStatics = h.objs.size := List.mem_singleton.mp hb
    exact absurd (Nat.lt_of_lt_of_le this hsz) (by rw [← e]; exact Nat.lt_irrefl _)
  · exact wpAny_pure ⟨rfl, s₂.heap, s₂.toks, rfl, fun _ _ e => e⟩
  · (refine x4_2 (hP) ?_; try clear hP; intro f p t1 t2 e1 e2)
    have e3 : va = .str f t1 ∧ vb = .str p t2 := by simpa using e2
    obtain ⟨rfl, rfl⟩ := e3
    refine helt A' E' i f p t1 t2 s₂ m₂ _ code hh hd hu e1 (F.wf.gl fun b o e => ?_) hn ha hb
    have e' := kB b o e
    refine hk2 b (List.mem_range.mpr (Heap.lt_size e')) (fun z => ?_) o (hk _ _ e')
    simp at z
    exact absurd (Heap.lt_size (F.keep _ _ e)) (by rw [z]; exact Nat.lt_irrefl _)
  · simp only [passing_true', List.length_range] at W
    have W' := WalksS.weak (P' := Fv) W fun j y hy => by
      (refine x1_2 (hy) ?_; try clear hy; intro i e hF)
      obtain ⟨hlt, e⟩ := List.getElem?_eq_some_iff.mp e
      simp at e
      subst e; exact hF
    have kk : ∀ b o, ¬ Tab b → h.get? b = some o → h₅.get? b = some o := fun b o nb e => hk5 _ _ (k₃ b o nb e)
    have nw : ∀ b o, h₃.get? b = some o → b ≠ h.objs.size → b ∉ (h₃.objs.size :: [h.objs.size]) := fun b o e hne z => by
      rcases List.mem_cons.mp z with rfl | z
      · exact absurd (Heap.lt_size e) (Nat.lt_irrefl _)
      · simp at z; exact hne z
    refine q a _ _ _ _ ⟨h₅, g.push gs, d, tk₅, os⟩ W' G (fun b hb => ?_) (.head _) (fun i s hs => ?_) (fun s'' M => ?_) (fun b hb => ?_) kk
    · show b < h₅.objs.size
      rw [hsz₅]
      rcases List.mem_cons.mp hb with rfl | hb
      · exact Nat.lt_succ_self _
      · rcases List.mem_cons.mp hb with rfl | hb
        · exact Nat.lt_succ_of_lt ha
        · exact Nat.lt_succ_of_lt (Nat.lt_trans (List.mem_range.mp hb) ha)
    · obtain ⟨⟨o, nm, qn, e1, e2, _⟩, _⟩ := hs
      exact ⟨o, e1, e2⟩
    · have km : ∀ b o, ¬ Tab b → h.get? b = some o → s''.heap.get? b = some o := fun b o nb e =>
        M.heap b o (nw b o (k₃ b o nb e) (Nat.ne_of_lt (Heap.lt_size e))) (kk b o nb e)
      have kt : ∀ b o, b < szTop → h₃.get? b = some o → s''.heap.get? b = some o := fun b o hb e =>
        M.heap b o (nw b o e (Nat.ne_of_lt (Nat.lt_of_lt_of_le hb hsz))) (hk5 _ _ e)
      refine F.moved (s := ⟨h, g, d₀, tk₀, os⟩) km (G₃.tb.part kt) ⟨M.os, fun k y e => ?_, fun hall => ?_, fun t tt ps e => ?_, trivial⟩
      · have e5 : (g.push gs)[k]? = some y := by rw [Array.getElem?_push, if_neg]; exact e; exact fun z => by rw [z] at e; simp at e
        have hlt : k ≠ g.size := fun z => by
          have e : g[k]? = some y := e
          rw [z] at e; simp at e
        rcases M.gens with z | ⟨z, _⟩
        · show s''.gens[k]? = some y
          rw [z]; exact e5
        · show s''.gens[k]? = some y
          exact (z.2 k hlt).trans e5
      · exact GenOnlyQ.bare M.gens (AllBare.push hall hb)
      · obtain ⟨more, e'⟩ := G₃.tg t tt ps (Heap.get?_push_of_some _ e)
        exact ⟨more, kt _ _ (tab_lt tt) e'⟩
    · rcases List.mem_cons.mp hb with rfl | hb
      · cases z : h.get? h₃.objs.size with
        | none => rfl
        | some o => exact absurd (Nat.lt_trans (Heap.lt_size z) hsz₃) (Nat.lt_irrefl _)
      · simp at hb; subst hb
        cases z : h.get? h.objs.size with
        | none => rfl
        | some o => exact absurd (Heap.lt_size z) (Nat.lt_irrefl _)
end
section
variable {prog : Program} {w : World} {A : Around} {E : Value → Shared → Prop} {s : Shared} {I : Addr} {fp wr : List Addr} {G : Array GenState → Array GenState → Prop} {n : Nat} {P : Nat → Value → Prop} {St : Nat → Shared → Prop} {Q : Value → Shared → Prop}
/-- a walk, told from one on -/
theorem WalksS.shift (W : WalksS prog w A I fp wr G n P St) : WalksS prog w A I fp wr G (n + 1) (fun i v => 1 ≤ i ∧ P (i - 1) v) (fun i s => 1 ≤ i ∧ St (i - 1) s) where
  sub := W.sub
  grefl := W.grefl
  gtrans := W.gtrans
  frame := fun i s h' tk ⟨a, b⟩ ht k => ⟨a, W.frame _ s h' tk b ht k⟩
  item := fun i s Q E hi ⟨a, b⟩ hQ => W.item (i - 1) s Q E (by ktn_no "om") b fun v s' hv hs' hm => hQ v s' ⟨a, hv⟩ ⟨by (first | lia | omega), by rw [show i + 1 - 1 = i - 1 + 1 by (first | lia | omega)]; exact hs'⟩ hm
  done := fun s Q E ⟨a, b⟩ hQ => W.done s Q E (by simpa using b) hQ
  self := fun i s Q E ⟨a, b⟩ hQ => W.self _ s Q E b hQ
theorem preSum_shift (val : Nat → Int) (c : Int) : ∀ k, preSum (fun i => if i = 0 then c else val (i - 1)) (k + 1) = c + preSum val k
  | 0 => by simp [preSum]
  | k + 1 => by
    have := preSum_shift val c k
    rw [preSum, this, preSum]
    simp; (first | lia | omega)
theorem call_sum2 {c : Int} {tc : Tok} (W : WalksS prog w A.in1 I fp wr G n P St) (hst : St 0 s) (hfp : ∀ b ∈ fp, b < s.heap.objs.size) (val : Nat → Int) (hval : ∀ i v, P i v → ∃ t, v = .int (val i) t)
    (hQ : ∀ s' t', Moved wr G s s' → Q (.int (c + preSum val n) t') s') : wpAny (model prog w) A (call (.builtin "sum") [.ref I, .int c tc]) Q E s := by
  refine call_function_tree PySem.F.kind_sum PySem.F.plain_sum PySem.F.entry_sum (by unfold argsOk; kernel_rfl) ?_
  have fin : ∀ (tk : Nat) (t1 : Tok) (st : Int), (st = 0 ∨ st = 2) → s.toks ≤ tk → wpAny (model prog w) A.in1 (do
      for (ty, what, hint) in [("str", "strings", "''"), ("bytes", "bytes", "b''"), ("bytearray", "bytearray", "b''")] do
        if ← isInstance (.int c t1) (.type ty) then
          rule "sum.start-refused"; raiseError "TypeError" s!"sum() can't sum {what} [use {hint}.join(seq) instead]"
      again (.builtin "sum.loop" ⟨[.ref I, ← newList [.int c t1], rawInt st, rawInt 0], []⟩))
      (fun fin s' => match fin with
        | .done f => (match (Except.ok f : Result) with | .ok (.ret v) => Q v s' | .ok _ => False | .error e => E e s')
        | .again c' => c'.quiet = true ∧ codeAny (model prog w) A c' (fun r s' => match r with | .ok (.ret v) => Q v s' | .ok _ => False | .error e => E e s') s') E { s with toks := tk } := by
    intro tk t1 st hst2 htk
    simp only [List.forIn_cons, List.forIn_nil]
    refine wpAny_bind (wpAny_bind (wpAny_bind (wpAny_isInstance (T := "int") (b := false) (typeIs_int _ _ _) _root_.PySem.sub_int_str ?_)))
    simp only [Bool.false_eq_true, if_false]
    refine wpAny_pure (wpAny_bind (wpAny_bind (wpAny_isInstance (T := "int") (b := false) (typeIs_int _ _ _) sub_int_bytes ?_)))
    simp only [Bool.false_eq_true, if_false]
    refine wpAny_pure (wpAny_bind (wpAny_bind (wpAny_isInstance (T := "int") (b := false) (typeIs_int _ _ _) sub_int_bytearray ?_)))
    simp only [Bool.false_eq_true, if_false]
    refine wpAny_pure (wpAny_pure ?_)
    refine wpAny_bind (wpAny_newObj_type ?_)
    have hSf : s.heap.objs.size ∉ fp := fun hm => Nat.lt_irrefl _ (hfp _ hm)
    have W' := WalksS.shift W
    refine wpAny_pure ⟨plainId_quiet PySem.F.plain_sum_loop _, codeAny_sum_loopAnyS W' (fun i => if i = 0 then c else val (i - 1)) (fun i v ⟨hi, hv⟩ => ?_) s.heap.objs.size hSf n 1 _ t1 0 st hst2 (by ktn_no "om") (by ktn_no "om")
      ⟨Nat.le_refl _, W.frame 0 s _ _ hst htk fun b _ o e => Heap.get?_push_of_some _ e⟩ ?_ fun s' t' hm => ?_⟩
    · obtain ⟨t, e⟩ := hval _ _ hv
      exact ⟨t, by rw [if_neg (by ktn_no "om")]; exact e⟩
    · rw [Heap.get?_push_size _ rfl, show preSum (fun i => if i = 0 then c else val (i - 1)) 1 = c by rw [preSum_shift]; simp [preSum]]
    · show Q (.int (preSum _ (n + 1)) t') s'
      rw [preSum_shift]
      exact hQ s' t' (hm.drop_new htk)
  unfold Builtin.«sum»
  simp only [List.length_cons, List.length_nil]
  rw [if_neg (by decide)]
  refine wpAny_bind (wpAny_of_eq (show Builtin.Builtins.bindParams "sum" ["start"] 0 ⟨[.int c tc], []⟩ = pure [some (.int c tc)] from rfl) ?_)
  refine wpAny_bind (W.self 0 s _ _ hst ?_)
  dsimp only
  split
  · refine wpAny_bind (wpAny_rule (wpAny_bind (wpAny_mkInt (wpAny_bind (wpAny_pure ?_)))))
    exact fin (s.toks + 1) s.toks 0 (.inl rfl) (Nat.le_succ _)
  · refine wpAny_bind (wpAny_pure ?_)
    exact fin s.toks tc 2 (.inr rfl) (Nat.le_refl _)
end
section
variable {w : World} {A : Around} {E : Value → Shared → Prop} {s : Shared} {env : Env} {x : PySem.Str} {v : Value} {pos : Pos} {m : PySem.Str → Option Value} {Q : Value → Shared → Prop}
theorem gm_L (hn : s.heap.Ns env.locals m) (hk : env.scope.kind = .function) (hx : env.kindOf x = some .local) (hb : (x == ("__debug__" : PySem.Str)) = false) (hv : m x = some v) (q : Q v s) :
    wpAny (M w) A (eval (.Name x pos) env) Q E s := wpAny_Name (wpAny_loadName_local hk hx hn hv q) hb
theorem gm_G (G : Gl w s.heap) (hk : env.scope.kind = .function) (hx : env.kindOf x = some .globalImplicit) (hL : env.globals = mainGlobals) (hb : (x == ("__debug__" : PySem.Str)) = false) (e : nsIn (KF w.params) mainGlobals x = some (some v)) (q : Q v s) :
    wpAny (M w) A (eval (.Name x pos) env) Q E s := by
  obtain ⟨mg, hg⟩ := G.g
  exact Name_function_global hk hx (loadGlobal_global (by rw [hL]; exact hg) (mg_of G.k hg e) q) hb
theorem gm_B (G : Gl w s.heap) (hk : env.scope.kind = .function) (hx : env.kindOf x = some .globalImplicit) (hL : env.globals = mainGlobals) (hL2 : env.builtins = builtinsNs) (hb : (x == ("__debug__" : PySem.Str)) = false)
    (e : nsIn (KF w.params) mainGlobals x = some none) (hv : bootBuiltins x = some v) (hn : x ≠ "__name__") (q : Q v s) : wpAny (M w) A (eval (.Name x pos) env) Q E s := by
  obtain ⟨mg, hg⟩ := G.g
  (refine x1_2 (G.b) ?_; intro mb hmb hbb)
  exact Name_function_global hk hx (loadGlobal_builtin (by rw [hL]; exact hg) (mg_none_of G.k hg e) (by rw [hL2]; exact hmb) ((hbb x hn).trans hv) q) hb
end
local macro_rules | `(tactic| ktn_no "boot") => `(tactic| first | boot_by_name | boot_fast | kernel_rfl)
section
variable {w : World} {B : Heap} {L : Addr} {m : PySem.Str → Option Value} {cl : List (PySem.Str × Addr)} {cm : PySem.Str → Option Value} {own rest news : List (Addr × Obj)} {s₀ s : Shared} {A : Around} {E : Value → Shared → Prop} {Q : Value → Shared → Prop} {n : Nat} {x : Addr} {its : List (PySem.Str × PySem.Str)} {init : Int}
noncomputable def accLen (init : Int) (its : List (PySem.Str × PySem.Str)) : Int := init + (its.map fun y => ((y.1.length : Int) + (y.2.length : Int))).sum
theorem preSum_list (l : List Int) : ∀ k, k ≤ l.length → preSum (fun i => l.getD i 0) k = (l.take k).sum
  | 0, _ => by simp [preSum]
  | k + 1, h => by
    have := preSum_list l k (by ktn_no "om")
    rw [preSum, this, List.take_succ_eq_append_getElem (by ktn_no "om"), List.sum_append]
    simp [List.getD_eq_getElem?_getD, List.getElem?_eq_getElem (show k < l.length by (first | lia | omega))]
theorem len_spec (R : Room (n + 12) A) (F : Fm w B L cl s₀ m cm (own ++ rest) s) (P : AccP x its init own) (hb : ∀ y ∈ its, y.1.length ≤ 1000000 ∧ y.2.length ≤ 1000000)
    (h : ∀ t s', Fm w B L cl s₀ m cm (own ++ rest) s' → Q (.int (accLen init its) t) s') :
   wpAny (M w) A (call (.ref a_Acc_dlen) [.ref x] []) Q E s := by
  refine call_fn (binds := [("self", .ref x)]) (fd := fd_Acc_dlen) (cmF := fun _ => none) R F (lk_Acc_dlen _) (cd_Acc_dlen _) rfl (BindsTo.of_eq rfl) (by decide) (by kernel_rfl) (fun _ _ e => (by cases e)) (fun _ _ _ e => (by cases e)) ?_ rfl rfl rfl
  obtain ⟨dx, nn, k, vs, l, es, t, rfl, hE, hT⟩ := P
  intro Qo hQo L' s₁ hL F₁ R₁
  obtain ⟨h₁, g₁, d₁, k₁, o₁⟩ := s₁
  ktn_no "ast"
  ktn_no "w"
  refine Call_ ?_ (by kernel_rfl)
  ktn_no "w"
  have hmem : ∀ p ∈ l, p ∈ ((x, accO dx vs nn) :: (dx, dictOf es k) :: l ++ rest) := fun p hp => by simp [hp]
  refine gen_acc (k := n) (c := C1) (t := T1) (its := its) (l := l) (dx := dx) (vs := vs) (n := nn) (fun i v => ∃ t, v = .int ((its.map fun y => ((y.1.length : Int) + (y.2.length : Int))).getD i 0) t) (R₁.less (by ktn_no "le")) F₁ hT (.head _) hmem (by kernel_rfl) (.inl ⟨rfl, rfl⟩) (by kernel_rfl) rfl (closureFor_none (by decide)) (by decide) (by kernel_rfl) (by kernel_rfl) (by kernel_rfl) (by decide) rfl (fun Q q => ?_) (fun x => rfl) (fun A' E' i f p t1 t2 s₂ m₂ C code hh hd hu e G hn ha hb' => ?_) fun a fp wr G' St s' W hst hfp hafp hty hmov hwr hk => ?_
  · ktn_no "nm1"
    exact q
  · have hl := hb _ (List.mem_of_getElem? e)
    refine wpAny_BinOp (Call_ (gm_B G (by kernel_rfl) (by kernel_rfl!) (by kernel_rfl) (by kernel_rfl) (by kernel_rfl) (by ktn_no "k_ev") (by ktn_no "boot") (by decide) ?_) (by kernel_rfl))
    refine cw_b (sp_cons (gm_L hn (by kernel_rfl) (by kernel_rfl!) (by kernel_rfl) ha (sp_nil ?_)) (by kernel_rfl)) (by kernel_rfl) (by kernel_rfl)
    refine SBL.len (by simp at hl; (first | lia | omega)) ?_
    refine Call_ (gm_B G (by kernel_rfl) (by kernel_rfl!) (by kernel_rfl) (by kernel_rfl) (by kernel_rfl) (by ktn_no "k_ev") (by ktn_no "boot") (by decide) ?_) (by kernel_rfl)
    refine cw_b (sp_cons (gm_L hn (by kernel_rfl) (by kernel_rfl!) (by kernel_rfl) hb' (sp_nil ?_)) (by kernel_rfl)) (by kernel_rfl) (by kernel_rfl)
    refine SBL.len (by simp at hl; (first | lia | omega)) ?_
    have ev : (its.map fun y => ((y.1.length : Int) + (y.2.length : Int))).getD i 0 = (f.length : Int) + (p.length : Int) := by
      simp only [List.getD_eq_getElem?_getD, List.getElem?_map, e]
      rfl
    refine add_int ⟨?_, s₂.heap, _, rfl, fun _ _ e => e⟩
    rw [ev]
    exact ⟨_, rfl⟩
  · have F₃ := hmov s' (Moved.refl W.grefl)
    obtain ⟨h₃, g₃, d₃, k₃, o₃⟩ := s'
    ktn_no "w"
    have hx₃ := F₃.at 0 rfl
    have hd₃ := F₃.at 1 rfl
    refine acc_get F₃.K hx₃ hd₃ hE (by ktn_no "k_ev") rfl ?_
    ktn_no "w"
    refine call_sum2 (St := St) W.in4_1 (W.frame 0 _ _ _ hst (Nat.le_succ _) fun _ _ _ e => e) hfp _ (fun i v hv => hv) fun s'' t' M => ?_
    refine hQo _ _ <| Back.of (hmov s'' ⟨M.heap, M.gens, M.drawn, M.os, Nat.le_trans (Nat.le_succ _) M.toks⟩) fun G => ?_
    have e := preSum_list (its.map fun y => ((y.1.length : Int) + (y.2.length : Int))) its.length (by simp)
    rw [List.take_of_length_le (by simp)] at e
    rw [e]
    exact h t' _ G
end
section
open Builtin Builtin.Str
section
variable {prog : Program} {w : World} {A : Around} {E : Value → Shared → Prop} {s : Shared} {Q : Value → Shared → Prop}
theorem join_tup {x : PySem.Str} {t : Tok} {a : Addr} {o : Obj} {n : Nat} {l : List (PySem.Str × Tok)} (ho : s.heap.get? a = some o) (hc : o.cls = .type "list" ∨ o.cls = .type "tuple") (hd : o.data = .seq (strValues l).toArray n) (hok : JoinOk x (l.map (·.1)) = true)
    (hq : ∀ t' k, Q (.str (Txt.join x (l.map (·.1))) t') { s with toks := k }) : wpAny (model prog w) A (call (.builtin "str.join") [.str x t, .ref a]) Q E s := by
  refine wpAny_call (codeAny_call_builtin PySem.F.slot_str_join.plain PySem.F.entry_str_join (PySem.F.slot_str_join.check _ _ _ _ _ _ _ _ (typeIs_str _ _ _) (PySem.F.args_str_join_2 _ _) ?_))
  rw [join_tree_other]
  refine wpAny_bind (Looks.here (M := model prog w) ((Looks.ld ho).andThen .now) ?_)
  rw [if_pos (by rcases hc with e | e <;> (rw [e]; decide))]
  refine wpAny_bind (wpAny_seqItems ho hd ?_)
  dsimp only
  unfold JoinOk at hok
  rw [Bool.not_eq_true'] at hok
  have g : Gives (joinTail x (strValues l)) (joinMade x l) := by
    have g0 := gives_joinTail x l hok
    cases l with
    | nil => exact g0
    | cons p r => cases r with
      | nil => exact g0
      | cons q r' => exact g0
  exact g prog w A (wants Q E) s (post_join l ⟨joinFit_length hok, hq⟩)
end
theorem join2 (f p : PySem.Str) : Txt.join (⟨#[]⟩ : PySem.Str) [f, p] = f ++ p := by
  have := fold_cat_join_nil [f, p]
  show PySem.Str.join (⟨#[]⟩ : PySem.Str) [f, p] = f ++ p
  rw [← this]
  simp only [List.foldl]
  have e : ∀ a : PySem.Str, (⟨#[]⟩ : PySem.Str) ++ a = a := fun a => by
    cases a; show (⟨#[] ++ _⟩ : PySem.Str) = _; simp
  rw [e]
noncomputable def accStr (its : List (PySem.Str × PySem.Str)) : PySem.Str := Txt.join (⟨#[]⟩ : PySem.Str) (its.map fun y => y.1 ++ y.2)
theorem joinOk_of {l : List PySem.Str} {N : Nat} (hl : l.length ≤ N) (hN : ∀ y ∈ l, y.length ≤ 10000) (h : N ≤ 900) : JoinOk (⟨#[]⟩ : PySem.Str) l = true := by
  unfold JoinOk
  have h3 : (⟨#[]⟩ : PySem.Str).length = 0 := rfl
  rw [StrLaws.joinFits hN (by rw [h3]; (first | lia | omega))]
  rfl
theorem e_empty : (Str.ofString "" : PySem.Str) = ⟨#[]⟩ := by decide
theorem vals_strs : ∀ {l : List (PySem.Str × Tok)} {ts : List PySem.Str}, l.length = ts.length → (∀ j v, (strValues l)[j]? = some v → ∃ t, v = Value.str (ts.getD j ⟨#[]⟩) t) → l.map (·.1) = ts
  | [], [], _, _ => rfl
  | (y, u) :: l, z :: ts, hl, h => by
    have h1 := h 0 (.str y u) rfl
    obtain ⟨t, e⟩ := h1
    have e : y = z := by injection e
    subst e
    rw [List.map_cons, vals_strs (l := l) (ts := ts) (by simpa using hl) fun j v hv => by simpa using h (j + 1) v (by simpa [strValues] using hv)]
  | [], _ :: _, hl, _ => by simp at hl
  | _ :: _, [], hl, _ => by simp at hl
section
variable {w : World} {B : Heap} {L : Addr} {m : PySem.Str → Option Value} {cl : List (PySem.Str × Addr)} {cm : PySem.Str → Option Value} {own rest news : List (Addr × Obj)} {s₀ s : Shared} {A : Around} {E : Value → Shared → Prop} {Q : Value → Shared → Prop} {n : Nat} {x : Addr} {its : List (PySem.Str × PySem.Str)} {init : Int}
theorem str_spec (R : Room (n + 12) A) (F : Fm w B L cl s₀ m cm (own ++ rest) s) (P : AccP x its init own) (hz : its.length ≤ 900) (hb : ∀ y ∈ its, y.1.length ≤ 5000 ∧ y.2.length ≤ 5000)
    (h : ∀ t s', Fm w B L cl s₀ m cm (own ++ rest) s' → Q (.str (accStr its) t) s') :
   wpAny (M w) A (call (.ref a_Acc_dstr) [.ref x] []) Q E s := by
  refine call_fn (binds := [("self", .ref x)]) (fd := fd_Acc_dstr) (cmF := fun _ => none) R F (lk_Acc_dstr _) (cd_Acc_dstr _) rfl (BindsTo.of_eq rfl) (by decide) (by kernel_rfl) (fun _ _ e => (by cases e)) (fun _ _ _ e => (by cases e)) ?_ rfl rfl rfl
  obtain ⟨dx, nn, k, vs, l, es, t, rfl, hE, hT⟩ := P
  intro Qo hQo L' s₁ hL F₁ R₁
  obtain ⟨h₁, g₁, d₁, k₁, o₁⟩ := s₁
  ktn_no "ast"
  ktn_no "w"
  refine GM.join ?_
  ktn_no "w"
  have hmem : ∀ p ∈ l, p ∈ ((x, accO dx vs nn) :: (dx, dictOf es k) :: l ++ rest) := fun p hp => by simp [hp]
  refine gen_acc (k := n) (c := C2) (t := T2) (its := its) (l := l) (dx := dx) (vs := vs) (n := nn) (fun i v => ∃ t, v = .str ((its.map fun y => y.1 ++ y.2).getD i ⟨#[]⟩) t) (R₁.less (by ktn_no "le")) F₁ hT (.head _) hmem (by kernel_rfl) (.inr ⟨rfl, rfl⟩) (by kernel_rfl) rfl (closureFor_none (by decide)) (by decide) (by kernel_rfl) (by kernel_rfl) (by kernel_rfl) (by decide) rfl (fun Q q => ?_) (fun x => rfl) (fun A' E' i f p t1 t2 s₂ m₂ C code hh hd hu e G hn ha hb' => ?_) fun a fp wr G' St s' W hst hfp hafp hty hmov hwr hk => ?_
  · ktn_no "nm1"
    exact q
  · have hl := hb _ (List.mem_of_getElem? e)
    simp only at hl
    obtain ⟨h₂, g₂, d₂, k₂, o₂⟩ := s₂
    refine mc_ (gm_G G (by kernel_rfl) (by kernel_rfl!) (by kernel_rfl) (by kernel_rfl) (by ktn_no "k_ev") ?_) (by kernel_rfl!) (by kernel_rfl) (by kernel_rfl)
    refine GM.join ?_
    refine cw_b (sp_cons (Tuple_ (sp_cons (gm_L hn (by kernel_rfl) (by kernel_rfl!) (by kernel_rfl) ha (sp_cons (gm_L hn (by kernel_rfl) (by kernel_rfl!) (by kernel_rfl) hb' (sp_nil (st_newTuple (by simp) (sp_nil ?_)))) (by kernel_rfl))) (by kernel_rfl))) (by kernel_rfl)) (by kernel_rfl) (by kernel_rfl)
    refine join_tup (l := [(f, t1), (p, t2)]) (Heap.get?_push_size _ rfl) (.inr rfl) rfl ?_ fun t' k' => ⟨?_, ?_⟩
    · rw [e_empty]
      exact joinOk_of (N := 2) (by simp) (fun y hy => by simp at hy; rcases hy with rfl | rfl <;> (first | lia | omega)) (by ktn_no "om")
    · refine ⟨t', ?_⟩
      rw [e_empty, show ([(f, t1), (p, t2)].map (·.1)) = [f, p] from rfl, join2]
      simp only [List.getD_eq_getElem?_getD, List.getElem?_map, e]
      rfl
    · exact ⟨_, _, rfl, fun b o eb => Heap.get?_push_of_some _ eb⟩
  · refine sp_nil ?_
    refine SC.joinGen (St := St) W.in4_2 hty hst hfp hafp (fun i v ⟨t, e⟩ => ⟨_, t, e⟩) (fun s'' lv M hI => ?_) (Nat.le_trans hz (by decide))
    obtain ⟨hI1, hI2⟩ := hI
    have ev : lv.map (·.1) = its.map fun y => y.1 ++ y.2 := vals_strs (by simpa [strValues] using hI1) fun j v hv => hI2 j v (by simpa using hv)
    rw [ev]
    refine ⟨?_, fun t' k' => ?_⟩
    · rw [e_empty]
      refine joinOk_of (N := 900) (by simpa using hz) (fun y hy => ?_) (Nat.le_refl _)
      (refine x1_2 (List.mem_map.mp hy) ?_; intro z hz' eqX2; subst eqX2)
      have := hb z hz'
      show (z.1 ++ z.2).length ≤ 10000
      have e : (z.1 ++ z.2).length = z.1.length + z.2.length := by
        show (z.1.cps ++ z.2.cps).size = _
        simp [PySem.Str.length]
      (first | lia | omega)
    · rw [e_empty]
      refine hQo _ _ <| Back.of (Fm.toks (hmov s'' M) _) fun G => h t' _ G
end

end
section
variable {w : World} {B : Heap} {L : Addr} {m : PySem.Str → Option Value} {cl : List (PySem.Str × Addr)} {cm : PySem.Str → Option Value} {own rest news : List (Addr × Obj)} {s₀ s : Shared} {A : Around} {E : Value → Shared → Prop} {Q : Value → Shared → Prop} {n : Nat} {x : Addr} {its : List (PySem.Str × PySem.Str)} {init : Int}
theorem len_b {Q : Fin → Shared → Prop} (R : Room (n + 16) A) (F : Fm w B L cl s₀ m cm (own ++ rest) s) (P : AccP x its init own) (hb : ∀ y ∈ its, y.1.length ≤ 1000000 ∧ y.2.length ≤ 1000000) (h0 : 0 ≤ accLen init its) (h1 : accLen init its < 2 ^ 63)
    (h : ∀ t s', Fm w B L cl s₀ m cm (own ++ rest) s' → Q (.done (.ret (.int (accLen init its) t))) s') : wpAny (M w) A (Builtin.«len» ⟨[.ref x], []⟩) Q E s := by
  have X := F.K
  have P' := P
  obtain ⟨dx, nn, k, vs, l, es, t, rfl, hE, hT⟩ := P
  obtain ⟨hh, g, d, tk, os⟩ := s
  have hx : hh.get? x = some (accO dx vs nn) := F.at 0 rfl
  unfold Builtin.«len» callSpecial?
  refine wpAny_bind (wpAny_pure (wpAny_bind (wpAny_bind (st_special hx X (by ktn_no "k_ev") ?_))))
  dsimp only
  refine wpAny_holding (wpAny_bind (st_bindS X (by ktn_no "k_ev") (by decide +kernel) ?_))
  dsimp only
  refine wpAny_bind ?_
  refine len_spec (n := n) (R.less (by ktn_no "le")) F P' hb fun t' s' F' => ?_
  obtain ⟨h₂, g₂, d₂, k₂, o₂⟩ := s'
  ktn_no "go"
  rw [if_neg (by ktn_no "om")]
  unfold retInt
  ktn_no "go"
  exact h _ _ (F'.toks _)
theorem len_call (R : Room (n + 17) A) (F : Fm w B L cl s₀ m cm (own ++ rest) s) (P : AccP x its init own) (hb : ∀ y ∈ its, y.1.length ≤ 1000000 ∧ y.2.length ≤ 1000000) (h0 : 0 ≤ accLen init its) (h1 : accLen init its < 2 ^ 63)
    (h : ∀ t s', Fm w B L cl s₀ m cm (own ++ rest) s' → Q (.int (accLen init its) t) s') : wpAny (M w) A (call (.builtin "len") [.ref x]) Q E s := by
  refine call_function_tree (by decide +kernel) (by decide +kernel) (entryFor_of_tree (by kernel_rfl) : entryFor table "len" = some Builtin.«len») (by unfold argsOk; kernel_rfl) ?_
  exact len_b (n := n) (R.in1.less (by ktn_no "om")) F P hb h0 h1 fun t s' F' => h t s' F'
theorem len_truthy (R : Room (n + 17) A) (F : Fm w B L cl s₀ m cm (own ++ rest) s) (P : AccP x its init own) (hb : ∀ y ∈ its, y.1.length ≤ 1000000 ∧ y.2.length ≤ 1000000) (h0 : 0 ≤ accLen init its) (h1 : accLen init its < 2 ^ 63) {Q : Bool → Shared → Prop}
    (h : ∀ s', Fm w B L cl s₀ m cm (own ++ rest) s' → Q (accLen init its != 0) s') : wpAny (M w) A (truthy (.ref x)) Q E s := by
  have X := F.K
  have P' := P
  obtain ⟨dx, nn, k, vs, l, es, t, rfl, hE, hT⟩ := P
  obtain ⟨hh, g, d, tk, os⟩ := s
  have hx : hh.get? x = some (accO dx vs nn) := F.at 0 rfl
  unfold truthy
  refine wpAny_bind ?_
  unfold callSpecial?
  refine wpAny_bind (st_special hx X (by ktn_no "k_ev") (wpAny_pure ?_))
  dsimp only
  refine wpAny_bind (st_special hx X (by ktn_no "k_ev") ?_)
  rw [if_neg (by decide)]
  refine wpAny_bind (wpAny_runValue (codeAny_builtin (entryFor_of_tree (by kernel_rfl) : entryFor table "len" = some Builtin.«len») ?_))
  rw [Around.under_plainId (by decide +kernel) _]
  refine len_b (n := n) (R.in1.less (by ktn_no "om")) F P' hb h0 h1 fun t s' F' => ?_
  exact wpAny_pure (h s' F')
end
section
variable {w : World} {B : Heap} {L : Addr} {m : PySem.Str → Option Value} {cl : List (PySem.Str × Addr)} {cm : PySem.Str → Option Value} {own rest news : List (Addr × Obj)} {s₀ s : Shared} {A : Around} {E : Value → Shared → Prop} {Q : Value → Shared → Prop} {n : Nat} {x : Addr} {its : List (PySem.Str × PySem.Str)} {init : Int}
theorem cw_t {pos : Pos} {env : Env} {e : Expr} {rest : List Expr} {T : String} {first : List Value} (h : wpAny (M w) A (spliced (backTo pos (starEach (e :: rest) env))) (fun vs s₁ => wpAny (M w) A (call (.type T) (first ++ vs)) Q E s₁) E s)
    (he : starEach (e :: rest) env = (false, eval e env) :: starEach rest env) (hp : (backTo pos (starEach rest env)).any (·.1) = false) :
    wpAny (M w) A (callWith pos (.type T) first (backTo pos (starEach (e :: rest) env)) []) Q E s := by
  rw [he] at h ⊢
  refine callWith_of (P := fun _ => True) ?_ (fun h _ => ⟨.machine, .inr (.inl rfl), Looks.now⟩) (evalArgs_plain (wpAny_mono h (fun vs s' hv => ⟨trivial, hv⟩) fun _ _ z => z))
  show ((false || (backTo pos (starEach rest env)).any (·.1)) || false) = false
  rw [hp]; rfl
theorem str_call (R : Room (n + 20) A) (F : Fm w B L cl s₀ m cm (own ++ rest) s) (P : AccP x its init own) (hz : its.length ≤ 900) (hb : ∀ y ∈ its, y.1.length ≤ 5000 ∧ y.2.length ≤ 5000)
    (h : ∀ t s', Fm w B L cl s₀ m cm (own ++ rest) s' → Q (.str (accStr its) t) s') : wpAny (M w) A (call (.type "str") [.ref x]) Q E s := by
  have X := F.K
  have P' := P
  obtain ⟨dx, nn, k, vs, l, es, t, rfl, hE, hT⟩ := P
  have hx : s.heap.get? x = some (accO dx vs nn) := F.at 0 rfl
  have hd : s.heap.get? dx = some (dictOf es k) := F.at 1 rfl
  refine kso_call (R.in1 (n := n + 19)).in1.cl X (acc_inst hx hd) (by ktn_no "k_ev") (by kernel_rfl) ?_
  exact str_spec (n := n) ((R.in1 (n := n + 19)).in1.less (k := n + 12) (by ktn_no "om")) F P' hz hb fun t s' F' => h t s' F'
theorem onlyws_spec (R : Room (n + 24) A) (F : Fm w B L cl s₀ m cm (own ++ rest) s) (P : AccP x its init own) (hz : its.length ≤ 900) (hb : ∀ y ∈ its, y.1.length ≤ 5000 ∧ y.2.length ≤ 5000) (h0 : 0 ≤ accLen init its) (h1 : accLen init its < 2 ^ 63)
    (h : ∀ s', Fm w B L cl s₀ m cm (own ++ rest) s' → Q (.bool (init == 0 && (accLen init its == 0 || Txt.isspace (accStr its)))) s') : wpAny (M w) A (call (.ref a_Acc_is_onlyws) [.ref x] []) Q E s := by
  refine call_fn (binds := [("self", .ref x)]) (fd := fd_Acc_is_onlyws) (cmF := fun _ => none) R F (lk_Acc_is_onlyws _) (cd_Acc_is_onlyws _) rfl (BindsTo.of_eq rfl) (by decide) (by kernel_rfl) (fun _ _ e => (by cases e)) (fun _ _ _ e => (by cases e)) ?_ rfl rfl rfl
  have P' := P
  obtain ⟨dx, nn, k, vs, l, es, t, rfl, hE, hT⟩ := P
  intro Qo hQo L' s₁ hL F₁ R₁
  obtain ⟨h₁, g₁, d₁, k₁, o₁⟩ := s₁
  have hb' : ∀ y ∈ its, y.1.length ≤ 1000000 ∧ y.2.length ≤ 1000000 := fun y hy => by have := hb y hy; (first | lia | omega)
  ktn_no "ast"
  ktn_no "w"
  have hx := F₁.at 0 rfl
  have hd := F₁.at 1 rfl
  refine acc_get F₁.K hx hd hE (by ktn_no "k_ev") rfl ?_
  ktn_no "w"
  cases hi : init == 0
  · simp only [Bool.false_eq_true, if_false]
    refine hQo _ _ <| Back.of (F₁.toks _) fun G => ?_
    have := h _ G
    rw [hi] at this
    exact this
  · simp only [if_true]
    ktn_no "w"
    refine len_truthy (n := n + 6) (R₁.less (by ktn_no "le")) (F₁.toks _) P' hb' h0 h1 fun s' F₂ => ?_
    obtain ⟨h₂, g₂, d₂, k₂, o₂⟩ := s'
    ktn_no "w"
    by_cases ha : accLen init its = 0
    · rw [if_pos (by rw [ha]; rfl)]
      refine hQo _ _ <| Back.of F₂ fun G => ?_
      have := h _ G
      rw [hi, ha] at this
      rw [ha]
      exact this
    · rw [if_neg (by simpa using ha)]
      ktn_no "w"
      refine Call_ ?_ (by kernel_rfl)
      ktn_no "w"
      refine cw_t ?_ (by kernel_rfl) (by kernel_rfl)
      ktn_no "w"
      refine str_call (n := n + 3) (R₁.less (by ktn_no "le")) F₂ P' hz hb fun t' s' F₃ => ?_
      obtain ⟨h₃, g₃, d₃, k₃, o₃⟩ := s'
      ktn_no "w"
      refine GM.isspace ?_
      ktn_no "w"
      refine SC.isspace ?_
      refine hQo _ _ <| Back.of F₃ fun G => ?_
      have := h _ G
      rw [hi, show (accLen init its == 0) = false by simpa using ha] at this
      exact this
end
section
variable {w : World} {A : Around} {E : Value → Shared → Prop} {x dx y : Addr} {vs : List Value} {n : Nat} {h : Heap} {g : Array GenState} {d : Drawn} {tk : Nat} {os : OsState}
noncomputable abbrev slO (a b c : Value) : Obj := ⟨.type "slice", none, .fields #[a, b, c], #[]⟩
theorem slice_eq (vs : List Value) (i : Nat) (hi : i ≤ vs.length) : (sliceRange (max 0 (min (if (i : Int) < 0 then (i : Int) + (vs.toArray.size : Int) else (i : Int)) (vs.toArray.size : Int))) (if (1 : Int) > 0 then (vs.toArray.size : Int) else -1) 1).filterMap (fun x => vs.toArray[x]?) = vs.drop i := by
  have e : max 0 (min (if (i : Int) < 0 then (i : Int) + (vs.toArray.size : Int) else (i : Int)) (vs.toArray.size : Int)) = (i : Int) := by
    simp only [List.size_toArray]; (first | lia | omega)
  rw [e, if_pos (by decide), sliceRange_one]
  rw [pick_run]
  show (vs.drop i).take _ = _
  exact List.take_of_length_le (by simp)
theorem acc_slice {i : Nat} {ti : Tok} {Q : Value → Shared → Prop} (X : (KF w.params).In h) (hx : h.get? x = some (accO dx vs n)) (hy : h.get? y = some (slO (.int i ti) .none .none)) (hi : i ≤ vs.length) (hz : vs.length ≤ 900)
    (q : Q (.ref h.objs.size) ⟨h.push ⟨.type "list", none, .seq (vs.drop i).toArray 0, #[]⟩, g, d, tk, os⟩) :
    wpAny (M w) A (call (.builtin "list.__getitem__") [.ref x, .ref y]) Q E ⟨h, g, d, tk, os⟩ := by
  refine call_bi (i := "list.__getitem__") (owner := "list") (n := "__getitem__") (b := Builtin.«list.__getitem__») (by first | exact .inr (by decide +kernel) | exact .inl (by decide +kernel)) (by decide +kernel) (by decide +kernel) (entryFor_of_tree (by kernel_rfl)) (by unfold argsOk; kernel_rfl) (looks_inst hx X (by ktn_no "k_ev")) ?_
  unfold Builtin.«list.__getitem__»
  ktn_no "go"
  dsimp only
  rw [slice_eq vs i hi]
  rw [if_neg (by have : (900 : Nat) ≤ sizeLine := by decide
                 simp; (first | lia | omega))]
  unfold newObjAsIs
  ktn_no "go"
  exact ⟨_, rfl, q⟩
end
section
variable {w : World} {A : Around} {E : Value → Shared → Prop} {x dx y z : Addr} {vs us : List Value} {n n2 : Nat} {h : Heap} {g : Array GenState} {d : Drawn} {tk : Nat} {os : OsState}
/-- self[i:] = [..] -/
theorem acc_setslice {i : Nat} {ti : Tok} {Q : Value → Shared → Prop} (X : (KF w.params).In h) (hx : h.get? x = some (accO dx vs n)) (hy : h.get? y = some (slO (.int i ti) .none .none)) (hzo : h.get? z = some ⟨.type "list", none, .seq us.toArray n2, #[]⟩) (hi : i ≤ vs.length) (hz : vs.length ≤ 900) (hu : us.length ≤ 900) (hne : x ≠ z)
    (q : ∀ h' n', Heap.SameBut x h h' → h'.get? x = some (accO dx (vs.take i ++ us) n') → Q .none ⟨h', g, d, tk, os⟩) :
    wpAny (M w) A (call (.builtin "list.__setitem__") [.ref x, .ref y, .ref z]) Q E ⟨h, g, d, tk, os⟩ := by
  refine call_bi (i := "list.__setitem__") (owner := "list") (n := "__setitem__") (b := Builtin.«list.__setitem__») (by first | exact .inr (by decide +kernel) | exact .inl (by decide +kernel)) (by decide +kernel) (by decide +kernel) (entryFor_of_tree (by kernel_rfl)) (by unfold argsOk; kernel_rfl) (looks_inst hx X (by ktn_no "k_ev")) ?_
  have hs : Builtin.List.listSameRef (.ref x) (.ref z) = false := by simp [Builtin.List.listSameRef, hne]
  unfold Builtin.«list.__setitem__»
  repeat (first | (with_reducible refine st_updateSeq (by heap_get; done) ?hz1 ?hz2 ?_) | (rw [hs, if_neg Bool.false_ne_true]) | (ktn_no "no_call"; ktn_no "st_one"))
  have e : max 0 (min (if (i : Int) < 0 then (i : Int) + (vs.toArray.size : Int) else (i : Int)) (vs.toArray.size : Int)) = (i : Int) := by
    simp only [List.size_toArray]; (first | lia | omega)
  have e2 : max (i : Int) (vs.toArray.size : Int) = (vs.toArray.size : Int) := by simp only [List.size_toArray]; (first | lia | omega)
  rw [if_neg (by unfold Builtin.List.listTooLong; have : (1800 : Nat) ≤ sizeLine := by decide
                 simp; (first | lia | omega))]
  dsimp only
  simp only [e, show (1 : Int) > 0 by decide, if_true, e2, Int.toNat_natCast]
  unfold Builtin.List.listUpdate
  dsimp only
  refine wpAny_bind (st_updateSeq hx ?_ ?_ ?_)
  · simp; (first | lia | omega)
  · simp; (first | lia | omega)
  intro h1 n1 hs1 hx1
  ktn_no "go"
  refine ⟨_, rfl, q _ n1 hs1 ?_⟩
  rw [hx1]
  simp
end
section
variable {w : World} {A : Around} {E : Value → Shared → Prop} {x dx y : Addr} {vs : List Value} {n : Nat} {h : Heap} {g : Array GenState} {d : Drawn} {tk : Nat} {os : OsState}
theorem acc_key {name : PySem.Str} {k : Value} {Q : Value → Shared → Prop} (X : (KF w.params).In h) (hx : h.get? x = some (accO dx vs n)) (q : Q k ⟨h, g, d, tk, os⟩) : wpAny (M w) A (sequenceKey (.ref x) k name) Q E ⟨h, g, d, tk, os⟩ := by
  unfold sequenceKey
  refine wpAny_bind (st_type hx ?_)
  dsimp only
  ktn_no "go"
  exact q
theorem acc_getItem {k : Value} {Q : Value → Shared → Prop} (X : (KF w.params).In h) (hx : h.get? x = some (accO dx vs n)) (q : wpAny (M w) A (call (.builtin "list.__getitem__") [.ref x, k]) Q E ⟨h, g, d, tk, os⟩) : wpAny (M w) A (getItem (.ref x) k) Q E ⟨h, g, d, tk, os⟩ := by
  unfold getItem
  refine wpAny_holding (wpAny_bind (acc_key X hx ?_))
  unfold callSpecial?
  refine wpAny_bind (wpAny_bind (st_special hx X (by ktn_no "k_ev") ?_))
  dsimp only
  refine wpAny_holding (wpAny_bind (st_bindS X (by ktn_no "k_ev") (by decide +kernel) ?_))
  refine wpAny_bind (wpAny_mono q (fun v s' hv => wpAny_pure (wpAny_pure hv)) fun _ _ z => z)
theorem acc_setItem {k v : Value} {Q : Unit → Shared → Prop} (X : (KF w.params).In h) (hx : h.get? x = some (accO dx vs n)) (q : wpAny (M w) A (call (.builtin "list.__setitem__") [.ref x, k, v]) (fun _ => Q ()) E ⟨h, g, d, tk, os⟩) : wpAny (M w) A (setItem (.ref x) k v) Q E ⟨h, g, d, tk, os⟩ := by
  unfold setItem
  refine wpAny_holding (wpAny_bind (acc_key X hx ?_))
  unfold callSpecial?
  refine wpAny_bind (wpAny_bind (st_special hx X (by ktn_no "k_ev") ?_))
  dsimp only
  refine wpAny_holding (wpAny_bind (st_bindS X (by ktn_no "k_ev") (by decide +kernel) ?_))
  refine wpAny_bind (wpAny_mono q (fun v s' hv => wpAny_pure (wpAny_pure hv)) fun _ _ z => z)
end
section
variable {w : World} {A : Around} {E : Value → Shared → Prop} {s : Shared} {env : Env}
/-- value[lower:] -/
theorem sub_slice {value e : Expr} {p pos : Pos} {Q : Value → Shared → Prop}
    (h : wpAny (M w) A (eval value env) (fun o s₁ => wpAny (M w) A (eval e env) (fun l s₂ => wpAny (M w) A (newFields "slice" [l, .none, .none]) (fun i s₃ => wpAny (M w) A (getitemInPython o) (fun _ s₄ => wpAny (M w) A (operate [i, o] (getItem o i)) Q E s₄) E s₃) E s₂) E s₁) E s)
    (ht : ∀ o r, letTemporaryGo value o r = pure ()) : wpAny (M w) A (eval (.Subscript value (.Slice (some e) none none p) pos) env) Q E s := by
  rw [arm_eval_Subscript]
  refine wpAny_bind (wpAny_mono h (fun o s₁ h₁ => ?_) fun _ _ z => z)
  refine wpAny_bind (wpAny_holding ?_)
  rw [arm_eval_Slice]
  have e1 : (valueOrNone (evalOpt (some e) env) : Sem Value) = eval e env := by kernel_rfl
  have e2 : (valueOrNone (evalOpt none env) : Sem Value) = pure .none := by kernel_rfl
  rw [e1, e2]
  refine wpAny_bind (wpAny_mono h₁ (fun l s₂ h₂ => ?_) fun _ _ z => z)
  refine wpAny_bind (wpAny_holding (wpAny_pure (wpAny_bind (wpAny_holding (wpAny_pure ?_)))))
  refine wpAny_mono h₂ (fun i s₃ h₃ => ?_) fun _ _ z => z
  refine wpAny_bind (wpAny_standAt (wpAny_bind (wpAny_mono h₃ (fun b s₄ h₄ => ?_) fun _ _ z => z)))
  refine wpAny_bind (wpAny_mono h₄ (fun r s₅ h₅ => ?_) fun _ _ z => z)
  rw [ht]
  exact wpAny_bind (wpAny_pure (wpAny_pure h₅))
end
noncomputable abbrev a_popdef : Addr := match fd_Acc_pop_from.defaults with | .ref a => a | _ => 0
theorem pd_K (P : Params) : (KF P).lookup a_popdef = some ((KF P).lookup a_popdef).get! := by kernel_rfl
/-- a list object at y that holds pairs -/
inductive LstP (y : Addr) (its : List (PySem.Str × PySem.Str)) (own : List (Addr × Obj)) : Prop
  | mk (n : Nat) (vs : List Value) (l : List (Addr × Obj)) (e : own = (y, ⟨.type "list", none, .seq vs.toArray n, #[]⟩) :: l) (hT : Tups its vs l) : LstP y its own
section
variable {w : World} {B : Heap} {L : Addr} {m : PySem.Str → Option Value} {cl : List (PySem.Str × Addr)} {cm : PySem.Str → Option Value} {own rest news : List (Addr × Obj)} {s₀ s : Shared} {A : Around} {E : Value → Shared → Prop} {Q : Value → Shared → Prop} {n : Nat} {x : Addr} {its : List (PySem.Str × PySem.Str)} {init : Int}
theorem st_newFields {h : Heap} {g : Array GenState} {d : Drawn} {tk : Nat} {os : OsState} {a b c : Value} (q : Q (.ref h.objs.size) ⟨h.push (slO a b c), g, d, tk, os⟩) : wpAny (M w) A (newFields "slice" [a, b, c]) Q E ⟨h, g, d, tk, os⟩ :=
  wpAny_newObj_type q (by show (3 : Nat) ≤ _; decide)
theorem st_operate {M : Model} {vs : List Value} {t : Sem Value} {Q : Value → Shared → Prop} (q : wpAny M A t Q E s) : wpAny M A (operate vs t) Q E s := fun Γ p hΓ => by
  rw [Sem.wp_operate]; exact q Γ p hΓ
theorem ev_slice {env : Env} {e : Expr} {p : Pos} (h : wpAny (M w) A (eval e env) (fun l s₂ => wpAny (M w) A (newFields "slice" [l, .none, .none]) Q E s₂) E s) : wpAny (M w) A (eval (.Slice (some e) none none p) env) Q E s := by
  rw [arm_eval_Slice]
  have e1 : (valueOrNone (evalOpt (some e) env) : Sem Value) = eval e env := by kernel_rfl
  have e2 : (valueOrNone (evalOpt none env) : Sem Value) = pure .none := by kernel_rfl
  rw [e1, e2]
  refine wpAny_bind (wpAny_mono h (fun l s₂ h₂ => ?_) fun _ _ z => z)
  exact wpAny_bind (wpAny_holding (wpAny_pure (wpAny_bind (wpAny_holding (wpAny_pure h₂)))))
theorem pop_from_spec {i : Nat} {ti : Tok} (R : Room (n + 12) A) (F : Fm w B L cl s₀ m cm (own ++ rest) s) (P : AccP x its init own) (hz : its.length ≤ 900) (hi : i ≤ its.length)
    (h : ∀ own1 own2 y s', AccP x (its.take i) init own1 → LstP y (its.drop i) own2 → Fm w B L cl s₀ m cm (own2 ++ (own1 ++ rest)) s' → Q (.ref y) s') :
   wpAny (M w) A (call (.ref a_Acc_pop_from) [.ref x, .int i ti] []) Q E s := by
  refine call_fn (binds := [("self", .ref x), ("i", .int i ti)]) (fd := fd_Acc_pop_from) (cmF := fun _ => none) R F (lk_Acc_pop_from _) (cd_Acc_pop_from _) rfl (BindsTo.of_defaults (T := a_popdef) rfl (F.K _ _ (pd_K _)) rfl (by with_unfolding_all rfl) (by kernel_rfl)) (by decide) (by kernel_rfl) (fun _ _ e => (by cases e)) (fun _ _ _ e => (by cases e)) ?_ rfl rfl rfl
  obtain ⟨dx, nn, k, vs, l, es, t, rfl, hE, hT⟩ := P
  intro Qo hQo L' s₁ hL F₁ R₁
  obtain ⟨h₁, g₁, d₁, k₁, o₁⟩ := s₁
  ktn_no "ast"
  ktn_no "w"
  refine sub_slice ?_ (fun o r => rfl)
  ktn_no "w"
  refine st_newFields ?_
  have F₂ := Fm.push F₁ (slO (.int i ti) .none .none) (tk := k₁)
  have hx₂ := F₂.at 1 rfl
  have hy₂ := F₂.at 0 rfl
  unfold getitemInPython
  refine wpAny_bind (st_special hx₂ F₂.K (by ktn_no "k_ev") ?_)
  dsimp only
  refine wpAny_pure (st_operate ?_)
  refine acc_getItem F₂.K hx₂ (acc_slice F₂.K hx₂ hy₂ (by rw [hT.len]; exact hi) (by rw [hT.len]; exact hz) ?_)
  have F₃ := Fm.push F₂ ⟨.type "list", none, .seq (vs.drop i).toArray 0, #[]⟩ (tk := k₁)
  refine st_L F₃ (by kernel_rfl) (by kernel_rfl!) (by kernel_rfl) fun h₄ F₄ => ?_
  ktn_no "w"
  refine wpAny_Assign_Subscript ?_ (by kernel_rfl)
  ktn_no "w"
  refine st_newList (by simp) ?_
  have F₅ := Fm.push F₄ ⟨.type "list", none, .seq ([] : List Value).toArray 0, #[]⟩ (tk := k₁ + 1)
  ktn_no "w"
  refine ev_slice ?_
  ktn_no "w"
  refine st_newFields ?_
  have F₆ := Fm.push F₅ (slO (.int i ti) .none .none) (tk := k₁ + 1)
  have hy₆ := F₆.at 0 rfl
  have hz₆ := F₆.at 1 rfl
  have hx₆ := F₆.at 4 rfl
  refine acc_setItem F₆.K hx₆ (acc_setslice F₆.K hx₆ hy₆ hz₆ (by rw [hT.len]; exact hi) (by rw [hT.len]; exact hz) (by simp) ?_ fun h' n' hs hx' => ?_)
  · exact Nat.ne_of_lt (Heap.lt_size (F₄.at 2 rfl))
  have F₇ := F₆.set (i := 4) rfl hs hx' (tk := k₁ + 1)
  rw [← List.take_append_drop i its] at hT
  (refine x4_4 (hT.split) ?_; intro va vb la lb eqX4 eqX5 h1 h2; subst eqX4; subst eqX5)
  ktn_no "w"
  have hl1 := h1.len
  have hl2 := h2.len
  have hva : va.length = i := by rw [hl1, List.length_take]; (first | lia | omega)
  refine hQo _ _ <| Back.of (Fm.toks (Fm.perm (F₇.sub (news' := ((h₁.push (slO (.int i ti) .none .none)).objs.size, ⟨.type "list", none, .seq vb.toArray 0, #[]⟩) :: (x, accO dx va n') :: (dx, dictOf es k) :: (la ++ lb) ++ rest) ?_) (news' := (((h₁.push (slO (.int i ti) .none .none)).objs.size, ⟨.type "list", none, .seq vb.toArray 0, #[]⟩) :: lb) ++ (((x, accO dx va n') :: (dx, dictOf es k) :: la) ++ rest)) ?_) _) fun G => ?_
  · have e1 : List.take i (va ++ vb) ++ [] = va := by rw [List.append_nil, ← hva]; simp
    have e2 : List.drop i (va ++ vb) = vb := by rw [← hva]; simp
    simp only [e1, e2, List.set, List.cons_append]
    exact .cons _ (.cons _ (.cons_cons _ (.cons _ (List.Sublist.refl _))))
  · ktn_no "perm_tac"
  · exact h _ _ _ _ ⟨_, _, _, _, _, _, _, rfl, hE, h1⟩ ⟨_, _, _, rfl, h2⟩ G
end
section
variable {w : World} {A : Around} {E : Value → Shared → Prop} {x dx y z : Addr} {vs us : List Value} {n n2 : Nat} {h : Heap} {g : Array GenState} {d : Drawn} {tk : Nat} {os : OsState}
theorem acc_setall {Q : Value → Shared → Prop} (X : (KF w.params).In h) (hx : h.get? x = some (accO dx vs n)) (hy : h.get? y = some (slO .none .none .none)) (hzo : h.get? z = some ⟨.type "list", none, .seq us.toArray n2, #[]⟩) (hz : vs.length ≤ 900) (hu : us.length ≤ 900) (hne : x ≠ z)
    (q : ∀ h' n', Heap.SameBut x h h' → h'.get? x = some (accO dx us n') → Q .none ⟨h', g, d, tk, os⟩) :
    wpAny (M w) A (call (.builtin "list.__setitem__") [.ref x, .ref y, .ref z]) Q E ⟨h, g, d, tk, os⟩ := by
  refine call_bi (i := "list.__setitem__") (owner := "list") (n := "__setitem__") (b := Builtin.«list.__setitem__») (by first | exact .inr (by decide +kernel) | exact .inl (by decide +kernel)) (by decide +kernel) (by decide +kernel) (entryFor_of_tree (by kernel_rfl)) (by unfold argsOk; kernel_rfl) (looks_inst hx X (by ktn_no "k_ev")) ?_
  have hs : Builtin.List.listSameRef (.ref x) (.ref z) = false := by simp [Builtin.List.listSameRef, hne]
  unfold Builtin.«list.__setitem__»
  repeat (first | (with_reducible refine st_updateSeq (by heap_get; done) ?hz1 ?hz2 ?_) | (rw [hs, if_neg Bool.false_ne_true]) | (ktn_no "no_call"; ktn_no "st_one"))
  rw [if_neg (by unfold Builtin.List.listTooLong; have : (1800 : Nat) ≤ sizeLine := by decide
                 simp; (first | lia | omega))]
  dsimp only
  unfold Builtin.List.listUpdate
  dsimp only
  refine wpAny_bind (st_updateSeq hx ?_ ?_ ?_)
  · simp; (first | lia | omega)
  · simp; (first | lia | omega)
  intro h1 n1 hs1 hx1
  ktn_no "go"
  refine ⟨_, rfl, q _ n1 hs1 ?_⟩
  rw [hx1]
  simp
end
section
variable {w : World} {B : Heap} {L : Addr} {m : PySem.Str → Option Value} {cl : List (PySem.Str × Addr)} {cm : PySem.Str → Option Value} {own own2 rest news : List (Addr × Obj)} {s₀ s : Shared} {A : Around} {E : Value → Shared → Prop} {Q : Value → Shared → Prop} {n : Nat} {x y : Addr} {its its2 : List (PySem.Str × PySem.Str)} {init : Int}
theorem ev_slice0 {env : Env} {p : Pos} (h : wpAny (M w) A (newFields "slice" [.none, .none, .none]) Q E s) : wpAny (M w) A (eval (.Slice none none none p) env) Q E s := by
  rw [arm_eval_Slice]
  have e2 : (valueOrNone (evalOpt none env) : Sem Value) = pure .none := by kernel_rfl
  rw [e2]
  exact wpAny_bind (wpAny_pure (wpAny_bind (wpAny_holding (wpAny_pure (wpAny_bind (wpAny_holding (wpAny_pure h)))))))
noncomputable abbrev a_rsdef : Addr := match fd_Acc_reset.defaults with | .ref a => a | _ => 0
theorem rd_K (P : Params) : (KF P).lookup a_rsdef = some ((KF P).lookup a_rsdef).get! := by kernel_rfl
theorem reset_none (R : Room (n + 12) A) (F : Fm w B L cl s₀ m cm (own ++ rest) s) (P : AccP x its init own) (hz : its.length ≤ 900)
    (h : ∀ own1 s', AccP x [] 0 own1 → Fm w B L cl s₀ m cm (own1 ++ rest) s' → Q .none s') :
   wpAny (M w) A (call (.ref a_Acc_reset) [.ref x] []) Q E s := by
  refine call_fn (binds := [("self", .ref x), ("startval", .none)]) (fd := fd_Acc_reset) (cmF := fun _ => none) R F (lk_Acc_reset _) (cd_Acc_reset _) rfl (BindsTo.of_defaults (T := a_rsdef) rfl (F.K _ _ (rd_K _)) rfl (by with_unfolding_all rfl) (by kernel_rfl)) (by decide) (by kernel_rfl) (fun _ _ e => (by cases e)) (fun _ _ _ e => (by cases e)) ?_ rfl rfl rfl
  obtain ⟨dx, nn, k, vs, l, es, t, rfl, hE, hT⟩ := P
  intro Qo hQo L' s₁ hL F₁ R₁
  obtain ⟨h₁, g₁, d₁, k₁, o₁⟩ := s₁
  ktn_no "ast"
  ktn_no "w"
  rw [if_pos (by decide)]
  ktn_no "w"
  refine st_newList (by simp) ?_
  have F₂ := Fm.push F₁ ⟨.type "list", none, .seq ([] : List Value).toArray 0, #[]⟩ (tk := k₁)
  refine st_L F₂ (by kernel_rfl) (by kernel_rfl!) (by kernel_rfl) fun h₃ F₃ => ?_
  ktn_no "w"
  refine wpAny_Assign_Subscript ?_ (by kernel_rfl)
  ktn_no "w"
  refine ev_slice0 ?_
  refine st_newFields ?_
  have F₄ := Fm.push F₃ (slO .none .none .none) (tk := k₁ + 1)
  have hy₄ := F₄.at 0 rfl
  have hz₄ := F₄.at 1 rfl
  have hx₄ := F₄.at 2 rfl
  refine acc_setItem F₄.K hx₄ (acc_setall F₄.K hx₄ hy₄ hz₄ (by rw [hT.len]; exact hz) (by simp) ?_ fun h' n' hs hx' => ?_)
  · exact Nat.ne_of_lt (Heap.lt_size (F₁.at 0 rfl))
  have F₅ := F₄.set (i := 2) rfl hs hx' (tk := k₁ + 1)
  ktn_no "w"
  have hne : x ≠ dx := fun e => by
    have := F₁.nd
    simp only [List.cons_append, List.map_cons, List.nodup_cons] at this
    exact this.1 (by rw [e]; exact .head _)
  refine acc_set F₅.K (F₅.at 2 rfl) hne (F₅.at 3 rfl) hE (by ktn_no "om") fun h₆ k₆ kk₆ es₆ hs₆ hd₆ hE₆ => ?_
  have F₆ := F₅.set (i := 3) rfl hs₆ hd₆ (tk := k₆)
  ktn_no "w"
  have hE' : EsOk es₆ (accM 0 (k₁ + 1)) 1 := by
    have := hE₆
    rw [upd_upd] at this
    exact this
  refine hQo _ _ <| Back.of (F₆.sub (news' := [(x, accO dx [] n'), (dx, dictOf es₆ kk₆)] ++ rest) ?_) fun G => h _ _ ⟨_, _, _, _, _, _, _, rfl, hE', .nil⟩ G
  simp only [List.set, List.cons_append, List.nil_append]
  exact .cons _ (.cons _ (.cons_cons _ (.cons_cons _ (List.sublist_append_right _ _))))
theorem reset_list (R : Room (n + 12) A) (F : Fm w B L cl s₀ m cm (own ++ (own2 ++ rest)) s) (P : AccP x its init own) (P2 : LstP y its2 own2) (hz : its.length ≤ 900) (hz2 : its2.length ≤ 900)
    (h : ∀ own1 s', AccP x its2 0 own1 → Fm w B L cl s₀ m cm (own1 ++ rest) s' → Q .none s') :
   wpAny (M w) A (call (.ref a_Acc_reset) [.ref x, .ref y] []) Q E s := by
  refine call_fn (binds := [("self", .ref x), ("startval", .ref y)]) (fd := fd_Acc_reset) (cmF := fun _ => none) R F (lk_Acc_reset _) (cd_Acc_reset _) rfl (BindsTo.of_defaults (T := a_rsdef) rfl (F.K _ _ (rd_K _)) rfl (by with_unfolding_all rfl) (by kernel_rfl)) (by decide) (by kernel_rfl) (fun _ _ e => (by cases e)) (fun _ _ _ e => (by cases e)) ?_ rfl rfl rfl
  obtain ⟨dx, nn, k, vs, l, es, t, rfl, hE, hT⟩ := P
  obtain ⟨nn2, us, l2, rfl, hT2⟩ := P2
  intro Qo hQo L' s₁ hL F₁ R₁
  obtain ⟨h₁, g₁, d₁, k₁, o₁⟩ := s₁
  ktn_no "ast"
  ktn_no "w"
  rw [if_neg (show ¬ (Value.ref y == Value.none) = true from Bool.false_ne_true)]
  ktn_no "w"
  refine wpAny_Assign_Subscript ?_ (by kernel_rfl)
  ktn_no "w"
  refine ev_slice0 ?_
  refine st_newFields ?_
  have F₄ := Fm.push (F₁.perm (news' := (x, accO dx vs nn) :: (dx, dictOf es k) :: (y, ⟨.type "list", none, .seq us.toArray nn2, #[]⟩) :: (l ++ l2 ++ rest)) (by ktn_no "perm_tac")) (slO .none .none .none) (tk := k₁)
  have hy₄ := F₄.at 0 rfl
  have hz₄ := F₄.at 3 rfl
  have hx₄ := F₄.at 1 rfl
  have hnd := F₄.nd
  simp only [List.map_cons, List.nodup_cons, List.mem_cons, not_or] at hnd
  refine acc_setItem F₄.K hx₄ (acc_setall F₄.K hx₄ hy₄ hz₄ (by rw [hT.len]; exact hz) (by rw [hT2.len]; exact hz2) ?_ fun h' n' hs hx' => ?_)
  · exact hnd.2.1.2.1
  have F₅ := F₄.set (i := 1) rfl hs hx' (tk := k₁)
  ktn_no "w"
  refine acc_set F₅.K (F₅.at 1 rfl) hnd.2.1.1 (F₅.at 2 rfl) hE (by ktn_no "om") fun h₆ k₆ kk₆ es₆ hs₆ hd₆ hE₆ => ?_
  have F₆ := F₅.set (i := 2) rfl hs₆ hd₆ (tk := k₆)
  ktn_no "w"
  have hE' : EsOk es₆ (accM 0 k₁) 1 := by
    have := hE₆
    rw [upd_upd] at this
    exact this
  refine hQo _ _ <| Back.of (F₆.sub (news' := (x, accO dx us n') :: (dx, dictOf es₆ kk₆) :: l2 ++ rest) ?_) fun G => h _ _ ⟨_, _, _, _, _, _, _, rfl, hE', hT2⟩ G
  simp only [List.set, List.cons_append, List.append_assoc]
  exact .cons _ (.cons_cons _ (.cons_cons _ (.cons _ (List.sublist_append_right _ _))))
end
section
variable {w : World} {A : Around} {E : Value → Shared → Prop} {h : Heap} {g : Array GenState} {d : Drawn} {tk : Nat} {os : OsState}
theorem acc_K (P : Params) : ∃ oc od cd sl, (KF P).lookup a_Acc = some ⟨oc, od, .cls cd, sl⟩ ∧ cd.mro = [.ref a_Acc, .type "list", .type "object"] ∧ cd.hasDel = false ∧ sl.toList[4]? = some (some (.builtin "list.__new__")) := ⟨_, _, _, _, rfl, rfl, rfl, rfl⟩
theorem acc_mro {M : Model} {P : Params} (X : (KF P).In h) : Looks M h (mroOf (.ref a_Acc)) [.ref a_Acc, .type "list", .type "object"] := (looks_clsIn X (by ktn_no "k_ev")).andThen (Looks.of_pure (by kernel_rfl))
theorem acc_made {M : Model} {P : Params} (X : (KF P).In h) : Looks M h (Bind.madeBy (.ref a_Acc)) (some "list.__new__") := by
  (refine x4_4 (acc_K P) ?_; intro oc od cd sl ho h1 h2 h3)
  intro A Q E s k q
  unfold Bind.madeBy
  refine wpAny_bind (acc_mro X A _ E s k ?_)
  rw [List.forIn_cons]
  refine wpAny_bind (wpAny_bind (wpAny_bind (wpAny_bind (wpAny_loadPart (k _ _ (X _ _ ho)) (wpAny_pure ?_)))))
  dsimp only
  rw [← Array.getElem?_toList, h3]
  exact wpAny_pure (wpAny_pure (wpAny_pure q))
theorem acc_base {M : Model} {P : Params} (X : (KF P).In h) : Looks M h (Bind.staticBase (.ref a_Acc)) (.ref a_Acc) := by
  intro A Q E s k q
  unfold Bind.staticBase
  refine wpAny_bind (acc_mro X A _ E s k ?_)
  rw [List.forIn_cons]
  exact wpAny_bind (wpAny_bind (wpAny_bind (acc_made X A _ E s k (wpAny_pure (wpAny_pure (wpAny_pure q))))))
theorem acc_isType {Q : Bool → Shared → Prop} (X : (KF w.params).In h) (q : Q true ⟨h, g, d, tk, os⟩) : wpAny (M w) A (isType (.ref a_Acc)) Q E ⟨h, g, d, tk, os⟩ := by
  (refine x4_4 (acc_K w.params) ?_; intro oc od cd sl ho h1 h2 h3)
  exact ks_wpAny_isType_cls (X _ _ ho) rfl q
theorem new_acc {rest : List Value} {R : Result → Shared → Prop} (X : (KF w.params).In h)
    (hq : R (.ok (.ret (.ref (h.objs.size + 1)))) ⟨(h.push (dictOf [] 0)).push (accO h.objs.size [] 0), g, d, tk, os⟩) :
    codeAny (M w) A (.call (.builtin "list.__new__") ⟨.ref a_Acc :: rest, []⟩) R ⟨h, g, d, tk, os⟩ := by
  (refine x4_4 (acc_K w.params) ?_; intro oc od cd sl ho h1 h2 h3)
  refine codeAny_call_builtin_code (plainId_quiet _root_.PySem.F.plain_list_new _) ?_
  have hk : builtinKind "list.__new__" = some .builtinFn := by decide +kernel
  have hsp : splitId "list.__new__" = some ("list", "__new__") := by decide +kernel
  unfold checkBuiltinCall
  rw [hk, hsp]
  dsimp only
  rw [if_pos (by decide)]
  refine wpAny_bind (acc_isType X ?_)
  rw [if_neg (by decide)]
  refine wpAny_bind (st_sub X (by ktn_no "k_ev") ?_)
  rw [if_neg (by decide)]
  try dsimp only
  refine wpAny_bind (Looks.at (acc_base X) ?_)
  refine wpAny_bind (Looks.at (acc_made X) ?_)
  dsimp only
  rw [if_neg (by decide)]
  have hs : ∃ S, Manifest.signature? "list.__new__" = some S ∧ Bind.checkArgs "list.__new__" S ⟨.ref a_Acc :: rest, []⟩ = pure () := ⟨_, by ktn_no "k_ev", by kernel_rfl⟩
  (refine x1_2 (hs) ?_; try clear hs; intro S hS hc)
  rw [hS]
  refine wpAny_of_eq hc ?_
  refine codeAny_builtin_stack _root_.PySem.F.entry_list_new rfl fun p st => ?_
  rw [Around.under_plainId _root_.PySem.F.plain_list_new _]
  have hown := owner_list_new
  simp only [hown]
  try dsimp only
  refine wpAny_bind (acc_isType X ?_)
  rw [if_neg (by decide)]
  refine wpAny_bind (st_sub X (by ktn_no "k_ev") ?_)
  rw [if_neg (by decide)]
  refine wpAny_bind (wpAny_pure ?_)
  rw [if_neg (by decide)]
  unfold newDict
  refine wpAny_bind (wpAny_newObj_type ?_)
  dsimp only
  unfold newObj newObjAsIs classHasDel
  dsimp only
  refine wpAny_bind (wpAny_bind ?_)
  refine wpAny_alloc (wpAny_bind (wpAny_bind (wpAny_load (Heap.get?_push_of_some _ (Heap.get?_push_of_some _ (X _ _ ho))) ?_)))
  dsimp only
  rw [h2]
  refine wpAny_pure ?_
  rw [if_neg (by decide)]
  refine wpAny_pure (wpAny_pure ?_)
  show R _ _
  rw [Heap.size_push]
  exact hq
theorem Room.tc {n : Nat} {C : Addr} {rest : List Value} (R : Room (n + 1) A) : Room n (A.under (.builtin "type.__call__" ⟨.ref C :: rest, []⟩)) := by
  obtain ⟨l, hl⟩ := R.frames
  have h1 : (Code.builtin "type.__call__" ⟨.ref C :: rest, []⟩).weight = 1 := by kernel_rfl
  have h2 : (Code.builtin "type.__call__" ⟨.ref C :: rest, []⟩).cUnits = 1 := by kernel_rfl
  have h3 : (Code.builtin "type.__call__" ⟨.ref C :: rest, []⟩).envs = [] := by kernel_rfl
  refine ⟨R.handled, ?_, ?_, l, ?_⟩
  · have := R.depth
    show A.depth + (Code.builtin "type.__call__" ⟨.ref C :: rest, []⟩).weight + n ≤ 800
    (first | lia | omega)
  · have := R.units
    show A.units + (Code.builtin "type.__call__" ⟨.ref C :: rest, []⟩).cUnits + _ ≤ 9000
    (first | lia | omega)
  · show pushEnvs (Code.builtin "type.__call__" ⟨.ref C :: rest, []⟩).envs A.frames = _
    rw [h3, hl]; rfl
theorem make_acc {rest : List Value} {Q : Value → Shared → Prop} (X : (KF w.params).In h)
    (hq : wpAny (M w) (A.under (.builtin "type.__call__" ⟨.ref a_Acc :: rest, []⟩)) (call (.ref a_Acc_dinit) (.ref (h.objs.size + 1) :: rest)) (fun v s' => v = .none ∧ Q (.ref (h.objs.size + 1)) s') (fun e s' => E e s') ⟨(h.push (dictOf [] 0)).push (accO h.objs.size [] 0), g, d, tk, os⟩) :
    wpAny (M w) A (call (.ref a_Acc) rest) Q E ⟨h, g, d, tk, os⟩ := by
  (refine x4_4 (acc_K w.params) ?_; intro oc od cd sl ho h1 h2 h3)
  refine wpAny_call (codeAny_of_tree ?_)
  show wpAny _ _ (callAny (.ref a_Acc) _) _ _ _
  unfold callAny
  refine wpAny_bind (wpAny_load (X _ _ ho) ?_)
  dsimp only
  unfold callAny.viaDunder
  refine wpAny_bind (st_specialK X (by ktn_no "k_ev") ?_)
  dsimp only
  rw [tc_bind]
  refine wpAny_bind (wpAny_pure (wpAny_bind (wpAny_pure ?_)))
  refine wpAny_pure (a := Fin.again (.call (.builtin "type.__call__") ⟨.ref a_Acc :: rest, []⟩)) (And.intro rfl ?_)
  refine codeAny_call_builtin_at (Code.quiet_builtin _ (by decide +kernel)) entry_typeCall (check_slot tc_kind tc_split (looks_instIn X (by ktn_no "k_ev")) (tc_args _ _ _) ?_)
  unfold Builtin.«type.__call__»
  dsimp only
  rw [if_neg (show ¬ (Value.ref a_Acc == Value.type "type") = true from Bool.false_ne_true)]
  refine wpAny_bind (Looks.at (acc_mro X) ?_)
  rw [if_neg (by decide)]
  refine wpAny_bind (Looks.at (acc_made X) ?_)
  dsimp only
  refine wpAny_bind (wpAny_pure (wpAny_bind (wpAny_holding (wpAny_call (new_acc X ?_)))))
  have X2 := pushIn (o := accO h.objs.size [] 0) (pushIn (o := dictOf [] 0) X)
  have hx : ((h.push (dictOf [] 0)).push (accO h.objs.size [] 0)).get? (h.objs.size + 1) = some (accO h.objs.size [] 0) := by
    have := Heap.get?_push_size (h.push (dictOf [] 0)) (o := accO h.objs.size [] 0) rfl
    rw [Heap.size_push] at this
    exact this
  refine wpAny_bind (st_inst hx X2 (by ktn_no "k_ev") ?_)
  rw [if_neg (by decide)]
  refine wpAny_bind (wpAny_holding ?_)
  unfold callSpecial?
  refine wpAny_bind (st_special hx X2 (by ktn_no "k_ev") ?_)
  dsimp only
  refine wpAny_holding (wpAny_bind (st_bindS X2 (by ktn_no "k_ev") (by decide +kernel) ?_))
  refine wpAny_bind (wpAny_mono hq (fun v s' hv => ?_) fun _ _ z => z)
  obtain ⟨rfl, hv⟩ := hv
  refine wpAny_pure ?_
  dsimp only
  rw [if_neg (by decide)]
  exact wpAny_pure hv
end
section
variable {w : World} {B : Heap} {L : Addr} {m : PySem.Str → Option Value} {cl : List (PySem.Str × Addr)} {cm : PySem.Str → Option Value} {own rest news : List (Addr × Obj)} {s₀ s : Shared} {A : Around} {E : Value → Shared → Prop} {Q : Value → Shared → Prop} {n : Nat} {x dx : Addr} {its : List (PySem.Str × PySem.Str)} {init : Int}
theorem acc_init_b {h : Heap} {g : Array GenState} {d : Drawn} {tk : Nat} {os : OsState} {k : Nat} (hx : h.get? x = some (accO dx [] k))
    (q : ∀ h' n', Heap.SameBut x h h' → h'.get? x = some (accO dx [] n') → Q .none ⟨h', g, d, tk, os⟩) :
    wpAny (M w) A (Builtin.«list.__init__» ⟨[.ref x], []⟩) (fun fin s' => ∃ v, fin = .done (.ret v) ∧ Q v s') E ⟨h, g, d, tk, os⟩ := by
  unfold Builtin.«list.__init__»
  ktn_no "go"
  intro h1 n1 hs1 hx1
  unfold letGo
  ktn_no "go"
  exact ⟨_, rfl, q _ _ hs1 hx1⟩
theorem init_spec {args : List Value} {k : Int} {t : Tok} (R : Room (n + 12) A) (F : Fm w B L cl s₀ m cm ((x, accO dx [] 0) :: (dx, dictOf [] 0) :: rest) s)
    (hbind : BindsTo s fd_Acc_dinit ⟨.ref x :: args, []⟩ [("self", .ref x), ("initial_size", .int k t)])
    (h : ∀ own' s', AccP x [] k own' → Fm w B L cl s₀ m cm (own' ++ rest) s' → Q .none s') :
   wpAny (M w) A (call (.ref a_Acc_dinit) (.ref x :: args) []) Q E s := by
  have CL := clo1 (P := w.params) (cl := fd_Acc_dinit.closure) (cc := a_cc) (cmF := cmC) (by kernel_rfl) (cc_K _) rfl (by decide)
  refine call_fn_at (binds := [("self", .ref x), ("initial_size", .int k t)]) (fd := fd_Acc_dinit) (cmF := cmC) R F (lk_Acc_dinit _) (cd_Acc_dinit _) rfl hbind (by decide) (by kernel_rfl) CL.1 CL.2 ?_ rfl rfl rfl
  intro Qo hQo L' s₁ hL F₁ R₁
  obtain ⟨h₁, g₁, d₁, k₁, o₁⟩ := s₁
  ktn_no "ast_at"
  refine ks_wpAt_execs_cons (_root_.PySem.wpAt_of_wpAny ?_)
  ktn_no "w"
  have hne : x ≠ dx := fun e => by
    have := F₁.nd
    simp only [List.map_cons, List.nodup_cons] at this
    exact this.1 (by rw [e]; exact .head _)
  refine acc_set F₁.K (F₁.at 0 rfl) hne (F₁.at 1 rfl) (EsOk.nil 0) (by ktn_no "om") fun h₂ k₂ kk₂ es₂ hs₂ hd₂ hE₂ => ?_
  have F₂ := F₁.set (i := 1) rfl hs₂ hd₂ (tk := k₂)
  have hE : EsOk es₂ (accM k t) 1 := hE₂
  have hx₂ := F₂.at 0 rfl
  ktn_no "ast_at"
  refine ks_wpAt_execs_cons (ks_wpAt_Expr_any (mc_at ?_ (by kernel_rfl) (by kernel_rfl)) (by kernel_rfl) (by kernel_rfl))
  refine sup_base (cc := a_cc) F₂ (lk_Acc_dinit _) (by kernel_rfl) (by ktn_no "k_val") (by ktn_no "k_val") (by kernel_rfl) (by kernel_rfl) hx₂ (by ktn_no "k_ev") (by ktn_no "k_ev") (by ktn_no "k_ev") (by decide) (by kernel_rfl) (by kernel_rfl) (by kernel_rfl) rfl rfl rfl (by decide +kernel) (by first | boot_by_name | kernel_rfl) fun h₃ F₃ => ?_
  dsimp only
  have hx₃ := F₃.at 1 rfl
  have hso₃ := F₃.at 0 rfl
  refine sup_method (b := .none) F₃.K (F₃.nK (p := (x, _)) (.tail _ (.head _)) (by decide)) hso₃ (by decide) (by ktn_no "k_ev") (by ktn_no "k_ev") (by ktn_no "k_ev") (by ktn_no "k_ev") (by ktn_no "k_ev") ?_
  refine wrap_get F₃.K hx₃ (by ktn_no "k_ev") (by ktn_no "k_ev") ⟨rfl, ?_⟩
  have F₄ := Fm.push F₃ (bndO "method-wrapper" "list.__init__" x) (tk := k₂ + 1)
  have hb₄ := F₄.at 0 rfl
  have hx₄ := F₄.at 2 rfl
  dsimp only
  refine cw_bnd0 hb₄ (.inl rfl) ?_
  refine call_bnd (Bi := Builtin.«list.__init__») hb₄ (.inl rfl) (by decide +kernel) (entryFor_of_tree (by kernel_rfl)) (fun A Q E q => ?_) ?_
  · exact wpAny_of_eq (show checkBoundCall "list.__init__" ⟨[.ref x], []⟩ = pure () by kernel_rfl) q
  refine acc_init_b hx₄ fun h' n' hs hx' => ?_
  have F₅ := ((F₄.set (i := 2) rfl hs hx' (tk := k₂ + 1)).drop 2)
  refine _root_.PySem.wpAt_of_wpAny ?_
  ktn_no "w"
  exact hQo _ _ <| Back.of (Fm.toks F₅ _) fun G => h [(x, accO dx [] n'), (dx, dictOf es₂ kk₂)] _ ⟨_, _, _, _, _, _, _, rfl, hE, .nil⟩ G
noncomputable abbrev a_inidef : Addr := match fd_Acc_dinit.defaults with | .ref a => a | _ => 0
theorem ini_K (P : Params) : (KF P).lookup a_inidef = some ((KF P).lookup a_inidef).get! := by kernel_rfl
theorem make_any {args : List Value} {k : Int} {t : Tok} (R : Room (n + 14) A) (F : Fm w B L cl s₀ m cm rest s)
    (hbind : ∀ (s : Shared) (x : Addr), (KF w.params).In s.heap → BindsTo s fd_Acc_dinit ⟨.ref x :: args, []⟩ [("self", .ref x), ("initial_size", .int k t)])
    (h : ∀ x own' s', AccP x [] k own' → Fm w B L cl s₀ m cm (own' ++ rest) s' → Q (.ref x) s') :
   wpAny (M w) A (call (.ref a_Acc) args []) Q E s := by
  obtain ⟨h₁, g₁, d₁, k₁, o₁⟩ := s
  refine make_acc F.K ?_
  have F₁ := F.push (dictOf [] 0) (tk := k₁)
  have F₂ := F₁.push (accO h₁.objs.size [] 0) (tk := k₁)
  rw [show (h₁.push (dictOf [] 0)).objs.size = h₁.objs.size + 1 from Heap.size_push _ _] at F₂
  refine init_spec (n := n) (rest := rest) (R.tc.less (by ktn_no "om")) F₂ (hbind _ _ F₂.K) fun own' s' P G => ⟨rfl, h _ _ _ P G⟩
theorem make0 (R : Room (n + 14) A) (F : Fm w B L cl s₀ m cm rest s) (h : ∀ x own' s', AccP x [] 0 own' → Fm w B L cl s₀ m cm (own' ++ rest) s' → Q (.ref x) s') :
    wpAny (M w) A (call (.ref a_Acc) [] []) Q E s := by
  refine make_any (n := n) (t := 484) R F (fun s x X => ?_) h
  exact BindsTo.of_defaults (T := a_inidef) rfl (X _ _ (ini_K _)) rfl (by with_unfolding_all rfl) (by kernel_rfl)
theorem make1 {k : Int} {t : Tok} (R : Room (n + 14) A) (F : Fm w B L cl s₀ m cm rest s) (h : ∀ x own' s', AccP x [] k own' → Fm w B L cl s₀ m cm (own' ++ rest) s' → Q (.ref x) s') :
    wpAny (M w) A (call (.ref a_Acc) [.int k t] []) Q E s := by
  refine make_any (n := n) (t := t) R F (fun s x X => ?_) h
  exact BindsTo.of_defaults (T := a_inidef) rfl (X _ _ (ini_K _)) rfl (by with_unfolding_all rfl) (by kernel_rfl)
end
section
open Builtin Builtin.ObjectAttr
/-- an object of the class _ValueFormatter -/
noncomputable abbrev vfO (dv : Addr) : Obj := ⟨.ref a_VF, some dv, .plain, #[]⟩
section
variable {w : World} {A : Around} {E : Value → Shared → Prop} {x dv : Addr} {h : Heap} {g : Array GenState} {d : Drawn} {tk : Nat} {os : OsState} {v : Value} {k c : Nat} {es : List DictEntry} {mm : PySem.Str → Option Value} {name : PySem.Str}
theorem vf_inst (hx : h.get? x = some (vfO dv)) {od : Obj} (hd : h.get? dv = some od) : InstAt h x (vfO dv) a_VF (some od) := ⟨hx, rfl, rfl, hd⟩
theorem vf_get {Q : Value → Shared → Prop} {ex : Bool} (X : (KF w.params).In h) (hx : h.get? x = some (vfO dv)) (hd : h.get? dv = some (dictOf es k)) (hD : EsOk es mm c) (hm : mm name = some v) (hv : handedIn v = true)
    (ha : findIn (KF w.params) (.ref a_VF) name = some none) (q : Q v ⟨h, g, d, tk + 1, os⟩) : wpAny (M w) A (getAttr (.ref x) name ex) Q E ⟨h, g, d, tk, os⟩ :=
  get_value X (vf_inst hx hd) (by ktn_no "k_ev") (findObj_own (attr := none) (by ktn_no "k_ev") ha (by ktn_no "k_ev") (by rw [hD.look, hm])) hv q
theorem vf_method {Q : Value × List Value → Shared → Prop} {pl : Sem Bool} {f : Addr} (X : (KF w.params).In h) (hx : h.get? x = some (vfO dv)) (hd : h.get? dv = some (dictOf es k)) (hD : EsOk es mm c)
    (hf : findIn (KF w.params) (.ref a_VF) name = some (some (.ref f))) (ht : typeIn (KF w.params) (.ref f) = some (.type "function")) (hm : mm name = none)
    (q : Q (.ref f, [.ref x]) ⟨h, g, d, tk, os⟩) : wpAny (M w) A (getMethod (.ref x) name pl) Q E ⟨h, g, d, tk, os⟩ :=
  method_fn X (vf_inst hx hd) (by ktn_no "k_ev") (by ktn_no "k_ev") hf ht (by show Option.map _ (lookIn name (dictOf es k)) = _; rw [hD.look, hm]; rfl) q
theorem vf_refuse (l : List Value) (h : l = [.ref a_VF, .type "object"]) : refuseLoop (.ref x) "__setattr__" l = pure () := by
  subst h
  rw [refuseLoop_ref]
  exact PySem.F.store_object.passes _
theorem vf_set {Q : Unit → Shared → Prop} (X : (KF w.params).In h) (hx : h.get? x = some (vfO dv)) (hne : x ≠ dv) (hd : h.get? dv = some (dictOf es k)) (hD : EsOk es mm c) (hc : c ≤ 100) (ha : findIn (KF w.params) (.ref a_VF) name = some none)
    (q : ∀ h' tk' k' es', Heap.SameBut dv h h' → h'.get? dv = some (dictOf es' k') → EsOk es' (upd mm name v) (if (mm name).isSome then c else c + 1) → Q () ⟨h', g, d, tk', os⟩) : wpAny (M w) A (setAttr (.ref x) name v) Q E ⟨h, g, d, tk, os⟩ := by
  unfold setAttr
  ktn_no "go"
  refine call_bi (i := "object.__setattr__") (owner := "object") (n := "__setattr__") (b := Builtin.«object.__setattr__») (by first | exact .inr (by decide +kernel) | exact .inl (by decide +kernel)) (by decide +kernel) (by decide +kernel) (entryFor_of_tree (by kernel_rfl)) (by unfold argsOk; kernel_rfl) (looks_inst hx X (by ktn_no "k_ev")) ?_
  rw [show (Value.ref x :: [].append [Value.str name tk, v]) = [Value.ref x, Value.str name tk, v] from rfl, osa_eq, refuse_eq]
  refine wpAny_bind (wpAny_bind (st_type hx (wpAny_bind ?_)))
  refine Looks.at (r := [.ref a_VF, .type "object"]) ((looks_clsIn X (by ktn_no "k_ev")).andThen (Looks.of_pure (by kernel_rfl))) ?_
  rw [vf_refuse _ rfl]
  have LI : Looks (model pw w) h (instanceDict x true) (some dv) := looks_idict X hx rfl (by ktn_no "k_ev") rfl
  ktn_no "go"
  refine st_lookup X ha ?_
  repeat (first | (with_reducible refine st_nsSet hd hD ?_) | (with_reducible refine Looks.at LI ?_; dsimp only) | (ktn_no "no_call"; ktn_no "st_one"))
  intro h' k' es' hs h1 hE
  refine wpAny_bind (wpAny_lookBehind h1 ?_ ?_)
  · show Data.pastItsLine (.dict es'.toArray k') = none
    have := hE.len
    split at this <;> exact if_neg (by show ¬ es'.length > 16777216 + 1; (first | lia | omega))
  ktn_no "go"
  exact ⟨_, rfl, wpAny_pure (wpAny_pure (q _ _ _ _ hs h1 hE))⟩
end

end
section
variable {w : World} {A : Around} {E : Value → Shared → Prop} {h : Heap} {g : Array GenState} {d : Drawn} {tk : Nat} {os : OsState}
theorem vf_new {x dv : Addr} {v : Value} {k c : Nat} {es : List DictEntry} {mm : PySem.Str → Option Value} {name : PySem.Str} {Q : Unit → Shared → Prop} (X : (KF w.params).In h) (hx : h.get? x = some (vfO dv)) (hne : x ≠ dv) (hd : h.get? dv = some (dictOf es k)) (hD : EsOk es mm c) (hc : c ≤ 100) (ha : findIn (KF w.params) (.ref a_VF) name = some none) (hm : mm name = none)
    (q : ∀ h' tk' k' es', Heap.SameBut dv h h' → h'.get? dv = some (dictOf es' k') → EsOk es' (upd mm name v) (c + 1) → Q () ⟨h', g, d, tk', os⟩) : wpAny (M w) A (setAttr (.ref x) name v) Q E ⟨h, g, d, tk, os⟩ :=
  vf_set X hx hne hd hD hc ha fun h' tk' k' es' a b c => q h' tk' k' es' a b (by simpa [hm] using c)
theorem make_vf {rest : List Value} {Q : Value → Shared → Prop} (X : (KF w.params).In h)
    (hq : wpAny (M w) (A.under (.builtin "type.__call__" ⟨.ref a_VF :: rest, []⟩)) (call (.ref a_VF_dinit) (.ref (h.objs.size + 1) :: rest)) (fun v s' => v = .none ∧ Q (.ref (h.objs.size + 1)) s') (fun e s' => E e s') ⟨(h.push (dictOf [] 0)).push (vfO h.objs.size), g, d, tk, os⟩) :
    wpAny (M w) A (call (.ref a_VF) rest) Q E ⟨h, g, d, tk, os⟩ := by
  have Y := makes_of (M := M w) X (C := a_VF) (by kernel_rfl)
  have Y' := Y
  obtain ⟨⟨oc, od, cd, sl, hC, e1, e2, e4⟩, made, base, self, top, call, typ⟩ := Y
  have hm : Looks (M w) h (mroOf (.ref a_VF)) cd.mro := ((Looks.ld (part := none) hC).andThen .now).andThen .now
  refine wpAny_call (codeAny_of_tree ?_)
  show wpAny _ _ (callAny (.ref a_VF) _) _ _ _
  unfold callAny
  refine wpAny_bind (wpAny_load hC ?_)
  dsimp only
  unfold callAny.viaDunder
  refine wpAny_bind (Looks.at call ?_)
  dsimp only
  rw [tc_bind]
  refine wpAny_bind (wpAny_pure (wpAny_bind (wpAny_pure ?_)))
  refine wpAny_pure (a := Fin.again (.call (.builtin "type.__call__") ⟨.ref a_VF :: rest, []⟩)) (And.intro rfl ?_)
  refine codeAny_call_builtin_at (Code.quiet_builtin _ (by decide +kernel)) entry_typeCall (check_slot tc_kind tc_split typ (tc_args _ _ _) ?_)
  unfold Builtin.«type.__call__»
  dsimp only
  rw [if_neg (show ¬ (Value.ref a_VF == Value.type "type") = true from Bool.false_ne_true)]
  refine wpAny_bind (Looks.at hm ?_)
  rw [e4, if_neg (by decide)]
  refine wpAny_bind (Looks.at made ?_)
  dsimp only
  refine wpAny_bind (wpAny_pure (wpAny_bind (wpAny_holding (wpAny_call (new_K Y' (looks_findIn X (r := some (.ref a_VF_dinit)) (by ktn_no "k_ev")) (.inl (by decide)) ?_)))))
  have X2 := pushIn (o := vfO h.objs.size) (pushIn (o := dictOf [] 0) X)
  have hx : ((h.push (dictOf [] 0)).push (vfO h.objs.size)).get? (h.objs.size + 1) = some (vfO h.objs.size) := by
    have := Heap.get?_push_size (h.push (dictOf [] 0)) (o := vfO h.objs.size) rfl
    rw [Heap.size_push] at this
    exact this
  refine wpAny_bind (st_inst hx X2 (by ktn_no "k_ev") ?_)
  rw [if_neg (by decide)]
  refine wpAny_bind (wpAny_holding ?_)
  unfold callSpecial?
  refine wpAny_bind (st_special hx X2 (by ktn_no "k_ev") ?_)
  dsimp only
  refine wpAny_holding (wpAny_bind (st_bindS X2 (by ktn_no "k_ev") (by decide +kernel) ?_))
  refine wpAny_bind (wpAny_mono hq (fun v s' hv => ?_) fun _ _ z => z)
  obtain ⟨rfl, hv⟩ := hv
  refine wpAny_pure ?_
  dsimp only
  rw [if_neg (by decide)]
  exact wpAny_pure hv
end
section
variable {w : World} {B : Heap} {L : Addr} {m : PySem.Str → Option Value} {cl : List (PySem.Str × Addr)} {cm : PySem.Str → Option Value} {news : List (Addr × Obj)} {s₀ s : Shared} {A : Around} {E : Value → Shared → Prop} {Q : Value → Shared → Prop} {h : Heap} {g₀ : Array GenState} {d₀ : Drawn} {tk₀ : Nat} {os₀ : OsState} {env : Env} {pos : Pos}
theorem Fm.set1 {g : Array GenState} {d : Drawn} {tk : Nat} (F : Fm w B L cl s₀ m cm news ⟨h, g, d₀, tk₀, os₀⟩) {i : Nat} {x : Addr} {o o' : Obj} (hi : news[i]? = some (x, o)) {h' : Heap} (hs : Heap.SameBut x h h') (ho : h'.get? x = some o') : Fm w B L cl s₀ m cm (news.set i (x, o')) ⟨h', g, d, tk, os₀⟩ := Fm.set (s := ⟨h, g, d, tk, os₀⟩) F.withD hi hs ho
theorem Fm.push1 {g : Array GenState} {d : Drawn} {tk : Nat} (F : Fm w B L cl s₀ m cm news ⟨h, g, d₀, tk₀, os₀⟩) (o : Obj) (hf : o.isFreed = false := by rfl) : Fm w B L cl s₀ m cm ((h.objs.size, o) :: news) ⟨h.push o, g, d, tk, os₀⟩ := Fm.push (s := ⟨h, g, d, tk, os₀⟩) F.withD o hf
theorem FmK (F : Fm w B L cl s₀ m cm news ⟨h, g₀, d₀, tk₀, os₀⟩) : (KF w.params).In h := F.K
theorem cw_f {f : Addr} {first : List Value} {e : Expr} {rest : List Expr} (F : Fm w B L cl s₀ m cm news ⟨h, g₀, d₀, tk₀, os₀⟩) (hk : keepIn (KF w.params) (.ref f) = true) (he : starEach (e :: rest) env = (false, eval e env) :: starEach rest env) (hp : (backTo pos (starEach rest env)).any (·.1) = false)
    (q : wpAny (M w) A (spliced (backTo pos (starEach (e :: rest) env))) (fun vs s₁ => (KF w.params).In s₁.heap ∧ wpAny (M w) A (call (.ref f) (first ++ vs)) Q E s₁) E s) :
    wpAny (M w) A (callWith pos (.ref f) first (backTo pos (starEach (e :: rest) env)) []) Q E s := callWith_K F.K hk q he hp
theorem cw_r0 {f : Addr} {first : List Value} (F : Fm w B L cl s₀ m cm news ⟨h, g₀, d₀, tk₀, os₀⟩) (hk : keepIn (KF w.params) (.ref f) = true) {g : Array GenState} {d : Drawn} {tk : Nat} {os : OsState} (q : wpAny (M w) A (call (.ref f) first) Q E ⟨h, g, d, tk, os⟩) :
    wpAny (M w) A (callWith pos (.ref f) first (backTo pos (starEach [] env)) []) Q E ⟨h, g, d, tk, os⟩ := cw_f0 (s := ⟨h, g, d, tk, os⟩) F.K hk q
end
local macro_rules | `(tactic| ktn_no "x1") => `(tactic| first
  | ktn_no "w1"
  | (with_reducible refine Call_ ?_ ?a1; (case a1 => kernel_rfl))
  | (with_reducible refine cw_f (by assumption) ?a0 ?a1 ?a2 ?_; (case a0 => kernel_rfl); (case a1 => kernel_rfl); (case a2 => kernel_rfl))
  | (with_reducible refine cw_r0 (by assumption) ?a1 ?_; (case a1 => kernel_rfl))
  | (with_reducible refine cw_t ?_ ?a1 ?a2; (case a1 => kernel_rfl); (case a2 => kernel_rfl))
  | (with_reducible refine And.intro (FmK (by assumption)) ?_; try dsimp only)
  | (with_reducible refine st_L (by assumption) ?a1 ?a2 ?a3 (fun _ _ => ?_); (case a1 => kernel_rfl); (case a2 => kernel_rfl!); (case a3 => kernel_rfl)))
local macro_rules | `(tactic| ktn_no "x") => `(tactic| repeat ktn_no "x1")
noncomputable abbrev lsO (l : List Value) (n : Nat) : Obj := ⟨.type "list", none, .seq l.toArray n, #[]⟩
noncomputable abbrev vfM (mx : Int) (t1 : Tok) (t2 : Tok) (t3 : Tok) (sc : PySem.Str) (t4 : Tok) (ll ac : Addr) : PySem.Str → Option Value :=
  upd (upd (upd (upd (upd (upd (fun _ => none) "_maxlen" (.int mx t1)) "_continuation_ws" (.str "" t2)) "_continuation_ws_len" (.int 0 t3)) "_splitchars" (.str sc t4)) "_lines" (.ref ll)) "_current_line" (.ref ac)
/-- a _ValueFormatter at x -/
inductive VfP (x : Addr) (mx : Int) (sc : PySem.Str) (lines : List PySem.Str) (its : List (PySem.Str × PySem.Str)) (own : List (Addr × Obj)) : Prop
  | mk (dv : Addr) (k : Nat) (es : List DictEntry) (t1 t2 t3 t4 : Tok) (ll ac : Addr) (l : List (PySem.Str × Tok)) (n : Nat) (oa : List (Addr × Obj)) (e : own = (x, vfO dv) :: (dv, dictOf es k) :: (ll, lsO (strValues l) n) :: oa) (hE : EsOk es (vfM mx t1 t2 t3 sc t4 ll ac) 6) (hl : l.map (·.1) = lines) (hP : AccP ac its 0 oa) : VfP x mx sc lines its own
section
variable {w : World} {B : Heap} {L : Addr} {m : PySem.Str → Option Value} {cl : List (PySem.Str × Addr)} {cm : PySem.Str → Option Value} {own rest news : List (Addr × Obj)} {s₀ s : Shared} {A : Around} {E : Value → Shared → Prop} {Q : Value → Shared → Prop} {n : Nat} {x dx : Addr} {its : List (PySem.Str × PySem.Str)} {init : Int}
theorem vf_init {mx : Int} {sc : PySem.Str} {t0 t1 t2 t4 : Tok} (R : Room (n + 16) A) (F : Fm w B L cl s₀ m cm ((x, vfO dx) :: (dx, dictOf [] 0) :: rest) s)
    (h : ∀ own' s', VfP x mx sc [] [] own' → Fm w B L cl s₀ m cm (own' ++ rest) s' → Q .none s') :
   wpAny (M w) A (call (.ref a_VF_dinit) [.ref x, .int 0 t0, .int mx t1, .str "" t2, .str sc t4] []) Q E s := by
  refine call_fn (binds := [("self", .ref x), ("headerlen", .int 0 t0), ("maxlen", .int mx t1), ("continuation_ws", .str "" t2), ("splitchars", .str sc t4)]) (fd := fd_VF_dinit) (cmF := fun _ => none) R F (lk_VF_dinit _) (cd_VF_dinit _) rfl (BindsTo.of_eq rfl) (by decide) (by kernel_rfl) (fun _ _ e => (by cases e)) (fun _ _ _ e => (by cases e)) ?_ rfl rfl rfl
  intro Qo hQo L' s₁ hL F₁ R₁
  obtain ⟨h₁, g₁, d₁, k₁, o₁⟩ := s₁
  have hne : x ≠ dx := fun e => by
    have := F₁.nd
    simp only [List.map_cons, List.nodup_cons] at this
    exact this.1 (by rw [e]; exact .head _)
  ktn_no "ast"
  ktn_no "x"
  refine vf_new F₁.K (F₁.at 0 rfl) hne (F₁.at 1 rfl) (EsOk.nil 0) (by ktn_no "om") (by ktn_no "k_ev") (by kernel_rfl) fun h₂ k₂ kk₂ es₂ hs₂ hd₂ hE₂ => ?_
  have F₂ := F₁.set1 (i := 1) (d := d₁) (tk := k₂) rfl hs₂ hd₂
  ktn_no "x"
  refine vf_new F₂.K (F₂.at 0 rfl) hne (F₂.at 1 rfl) hE₂ (by ktn_no "om") (by ktn_no "k_ev") (by kernel_rfl) fun h₃ k₃ kk₃ es₃ hs₃ hd₃ hE₃ => ?_
  have F₃ := F₂.set1 (i := 1) (d := d₁) (tk := k₃) rfl hs₃ hd₃
  ktn_no "x"
  refine SBL.len (by decide) ?_
  ktn_no "x"
  refine vf_new F₃.K (F₃.at 0 rfl) hne (F₃.at 1 rfl) hE₃ (by ktn_no "om") (by ktn_no "k_ev") (by kernel_rfl) fun h₄ k₄ kk₄ es₄ hs₄ hd₄ hE₄ => ?_
  have F₄ := F₃.set1 (i := 1) (d := d₁) (tk := k₄) rfl hs₄ hd₄
  ktn_no "x"
  refine vf_new F₄.K (F₄.at 0 rfl) hne (F₄.at 1 rfl) hE₄ (by ktn_no "om") (by ktn_no "k_ev") (by kernel_rfl) fun h₅ k₅ kk₅ es₅ hs₅ hd₅ hE₅ => ?_
  have F₅ := F₄.set1 (i := 1) (d := d₁) (tk := k₅) rfl hs₅ hd₅
  ktn_no "x"
  refine st_newList (by simp) ?_
  have F₆ := F₅.push1 (d := d₁) (tk := k₅) (lsO [] 0)
  ktn_no "x"
  refine vf_new F₆.K (F₆.at 1 rfl) hne (F₆.at 2 rfl) hE₅ (by ktn_no "om") (by ktn_no "k_ev") (by kernel_rfl) fun h₇ k₇ kk₇ es₇ hs₇ hd₇ hE₇ => ?_
  have F₇ := F₆.set1 (i := 2) (d := d₁) (tk := k₇) rfl hs₇ hd₇
  ktn_no "x"
  refine make1 (n := n + 1) (R₁.less (by ktn_no "le")) F₇ fun ac oa s' P F₈ => ?_
  obtain ⟨h₈, g₈, d₈, k₈, o₈⟩ := s'
  have F₉ := F₈.perm (news' := (x, vfO dx) :: (dx, dictOf es₇ kk₇) :: (h₅.objs.size, lsO [] 0) :: (oa ++ rest)) (by simp only [List.set]; ktn_no "perm_tac")
  ktn_no "x"
  refine vf_new F₉.K (F₉.at 0 rfl) hne (F₉.at 1 rfl) hE₇ (by ktn_no "om") (by ktn_no "k_ev") (by kernel_rfl) fun h' k' kk' es' hs' hd' hE' => ?_
  have F' := F₉.set1 (i := 1) (d := d₈) (tk := k') rfl hs' hd'
  ktn_no "x"
  refine hQo _ _ <| Back.of F' fun G => h ((x, vfO dx) :: (dx, dictOf es' kk') :: (h₅.objs.size, lsO [] 0) :: oa) _ ⟨_, _, _, _, _, _, _, _, _, [], _, _, rfl, hE', rfl, P⟩ (by simpa using G)
end
noncomputable abbrev NoE : Value → Shared → Prop := fun _ _ => False
noncomputable def LoopC (w : World) (A : Around) (target : Expr) (it : Value) (body orelse : List Stmt) (env : Env) (Q : Flow → Shared → Prop) (s : Shared) : Prop :=
  codeAny (M w) A (.forLoop target it body orelse env) (fun r s' => match r with | .ok f => Q f s' | .error _ => False) s
section
variable {w : World} {A : Around} {s : Shared} {target iter : Expr} {it : Value} {body orelse : List Stmt} {env : Env} {Q : Flow → Shared → Prop} {pos : Pos}
theorem loop_step (h : wpAny (M w) A (pyNext it) (fun r s₁ => match r with
      | none => wpAny (M w) A (execs orelse env) Q NoE s₁
      | some v => wpAny (M w) A (letOwnedTupleGo target it v) (fun _ s₁' => wpAny (M w) A (assign target env v) (fun _ s₂ => wpAny (M w) A (execs body env) (fun f s₃ => match f with
          | .next => LoopC w A target it body orelse env Q s₃
          | .cont => LoopC w A target it body orelse env Q s₃
          | .brk => Q .next s₃
          | .ret v => Q (.ret v) s₃) NoE s₂) NoE s₁') NoE s₁) NoE s) : LoopC w A target it body orelse env Q s := by
  unfold LoopC
  refine codeAny_of_tree ?_
  rw [Around.under_of_weight rfl]
  show wpAny _ A ((forTurn target it body orelse env).onRaise (fun x => do noteFrame x env; theTreesLotGoes x)) _ _ s
  refine wpAny_onRaise ?_
  unfold forTurn
  refine wpAny_bind (wpAny_standAt (wpAny_bind (wpAny_onRaise (wpAny_mono h (fun r s₁ h₁ => ?_) fun _ _ z => z.elim))))
  cases r with
  | none =>
    refine wpAny_pure ⟨rfl, codeAny_block (wpAny_mono h₁ (fun _ _ z => z) fun _ _ z => z.elim)⟩
  | some v =>
    refine wpAny_bind (wpAny_mono h₁ (fun _ s₁' h₁' => ?_) fun _ _ z => z.elim)
    refine wpAny_bind (wpAny_mono h₁' (fun _ s₂ h₂ => wpAny_bind (wpAny_mono h₂ (fun f s₃ h₃ => ?_) fun _ _ z => z.elim)) fun _ _ z => z.elim)
    cases f with
    | next => exact wpAny_pure ⟨rfl, h₃⟩
    | cont => exact wpAny_pure ⟨rfl, h₃⟩
    | brk => exact wpAny_pure h₃
    | ret v => exact wpAny_pure h₃
theorem wFor (h : wpAny (M w) A (eval iter env) (fun xv s₁ => wpAny (M w) A (pyIter xv) (fun it s₂ => LoopC w A target it body orelse env Q s₂) NoE s₁) NoE s)
    (hs : ∀ x, foldedSetIterable iter env x = pure x) : wpAny (M w) A (exec (.For target iter body orelse pos) env) Q NoE s := by
  refine wpAny_For (wpAny_mono h (fun xv s₁ h₁ => wpAny_mono h₁ (fun it s₂ h₂ => ?_) fun _ _ z => z) fun _ _ z => z) hs
  refine codeAny_mono h₂ fun r s' z => ?_
  cases r with
  | ok f => exact z
  | error e => exact z.elim
end
/-- an iterator at I that has n things to give -/
structure Steps (w : World) (I : Addr) (n : Nat) (P : Nat → Value → Prop) (Ob : Nat → Obj → Prop) (Sd : Heap → Prop) : Prop where
  item : ∀ (A : Around) (i : Nat) (h : Heap) (g : Array GenState) (d : Drawn) (tk : Nat) (os : OsState) (o : Obj) (Q : Option Value → Shared → Prop) (E : Value → Shared → Prop), i < n → h.get? I = some o → Ob i o → Sd h →
    (∀ v h' tk' o', P i v → Ob (i + 1) o' → h'.get? I = some o' → Heap.SameBut I h h' → Q (some v) ⟨h', g, d, tk', os⟩) → wpAny (M w) A (pyNext (.ref I)) Q E ⟨h, g, d, tk, os⟩
  done : ∀ (A : Around) (h : Heap) (g : Array GenState) (d : Drawn) (tk : Nat) (os : OsState) (o : Obj) (Q : Option Value → Shared → Prop) (E : Value → Shared → Prop), A.handled = none → h.get? I = some o → Ob n o → Sd h →
    (∀ h' tk', (∀ b ob, b ≠ I → h.get? b = some ob → h'.get? b = some ob) → Q none ⟨h', g, d, tk', os⟩) → wpAny (M w) A (pyNext (.ref I)) Q E ⟨h, g, d, tk, os⟩
section
variable {w : World} {B : Heap} {L I : Addr} {m : PySem.Str → Option Value} {cl : List (PySem.Str × Addr)} {cm : PySem.Str → Option Value} {rest news : List (Addr × Obj)} {s₀ s : Shared} {A : Around} {E : Value → Shared → Prop} {h : Heap} {g : Array GenState} {d d₀ : Drawn} {tk tk₀ : Nat} {os : OsState} {o : Obj} {n i : Nat} {P : Nat → Value → Prop} {Ob : Nat → Obj → Prop} {Sd : Heap → Prop} {Q : Option Value → Shared → Prop}
theorem Fm.lose (F : Fm w B L cl s₀ m cm ((I, o) :: news) s) {h' : Heap} {tk : Nat} (k : ∀ b ob, b ≠ I → s.heap.get? b = some ob → h'.get? b = some ob) : Fm w B L cl s₀ m cm news { s with heap := h', toks := tk } := by
  (refine x0_4 (F.nw _ (.head _)) ?_; intro hI hIL hIB hIs)
  have nI : ∀ t, Tab t → t ≠ I := fun t ht e => tab_ne ht hIs e.symm
  have hnd := List.nodup_cons.mp F.nd
  (refine x3_2 (F.ns) ?_; intro oL es ep hL r)
  refine { wf := F.wf, ns := ⟨oL, es, ep, k _ _ hIL.symm hL, r⟩, keep := fun b ob e => k b ob (fun q => by rw [q, hIB] at e; cases e) (F.keep b ob e), above := F.above, nw := fun p hp => ?_, nd := hnd.2, ce := fun n c e => ?_, cd := fun n c e => ?_, cp := F.cp, tb := F.tb.part fun b ob hb e => k b ob (fun q => absurd hb (by rw [q]; exact Nat.not_lt.mpr hIs)) e, rl := ⟨F.rl.os, F.rl.gens, F.rl.bare, fun t ht ps e => ?_, trivial⟩ }
  · (refine x0_4 (F.nw p (.tail _ hp)) ?_; intro a b c d)
    exact ⟨k _ _ (fun q => hnd.1 (List.mem_map.mpr ⟨p, hp, q⟩)) a, b, c, d⟩
  · (refine x1_2 (F.ce n c e) ?_; intro oc hoc hd)
    exact ⟨oc, k _ _ (fun q => (F.cd n c e).2.1 (by rw [q]; exact .head _)) hoc, hd⟩
  · (refine x0_3 (F.cd n c e) ?_; intro a b c')
    exact ⟨a, fun q => b (.tail _ q), c'⟩
  · obtain ⟨m, e'⟩ := F.rl.tg t ht ps e
    exact ⟨m, k _ _ (nI t ht) e'⟩
theorem Fm.nextI (F : Fm w B L cl s₀ m cm ((I, o) :: news) ⟨h, g, d₀, tk₀, os⟩) (S : Steps w I n P Ob Sd) (hi : i < n) (ho : Ob i o) (hs : Sd h)
    (q : ∀ v h' tk' o', P i v → Ob (i + 1) o' → Fm w B L cl s₀ m cm ((I, o') :: news) ⟨h', g, d, tk', os⟩ → Q (some v) ⟨h', g, d, tk', os⟩) : wpAny (M w) A (pyNext (.ref I)) Q E ⟨h, g, d, tk, os⟩ :=
  S.item A i h g d tk os o Q E hi (F.at 0 rfl) ho hs fun v h' tk' o' hv ho' hI' hs' => q v h' tk' o' hv ho' (F.set1 (i := 0) rfl hs' hI')
theorem Fm.endI (F : Fm w B L cl s₀ m cm ((I, o) :: news) ⟨h, g, d₀, tk₀, os⟩) (S : Steps w I n P Ob Sd) (hh : A.handled = none) (hi : i = n) (ho : Ob i o) (hs : Sd h)
    (q : ∀ h' tk', Fm w B L cl s₀ m cm news ⟨h', g, d, tk', os⟩ → Q none ⟨h', g, d, tk', os⟩) : wpAny (M w) A (pyNext (.ref I)) Q E ⟨h, g, d, tk, os⟩ :=
  S.done A h g d tk os o Q E hh (F.at 0 rfl) (hi ▸ ho) hs fun h' tk' k => q h' tk' (Fm.lose (s := ⟨h, g, d, tk, os⟩) F.withD k)
end
theorem steps_range {w : World} (I : Addr) (a c : Int) (n : Nat) : Steps w I n (fun i v => ∃ t, v = .int (a + i * c) t) (fun i o => o = ⟨.type "range_iterator", none, .fields #[rawInt (a + (i : Nat) * c), rawInt ((n : Int) - (i : Nat)), rawInt c], #[]⟩) (fun _ => True) where
  item := fun A i h g d tk os o Q E hi hI ho _ q => by
    subst ho
    refine wpAny_pyNext_range_item (s := ⟨h, g, d, tk, os⟩) hI (by ktn_no "om") fun h' hit' hs' => ?_
    refine q _ h' _ _ ⟨_, rfl⟩ ?_ hit' hs'
    have e1 : a + ((i + 1 : Nat) : Int) * c = a + (i : Int) * c + c := by push_cast; rw [Int.add_mul, Int.one_mul, Int.add_assoc]
    have e2 : (n : Int) - ((i + 1 : Nat) : Int) = (n : Int) - (i : Int) - 1 := by push_cast; (first | lia | omega)
    rw [e1, e2]
  done := fun A h g d tk os o Q E hh hI ho _ q => by
    subst ho
    refine wpAny_pyNext_range_end (s := ⟨h, g, d, tk, os⟩) hh hI (by ktn_no "om") fun h' he' => q h' tk fun b ob hb e => he' b ob hb e
theorem steps_str {w : World} (I : Addr) (x : PySem.Str) (t : Tok) : Steps w I x.cps.size (fun i v => ∃ c t, x.cps[i]? = some c ∧ v = .str ⟨#[c]⟩ t) (fun i o => o.cls = .type "str_ascii_iterator" ∧ o.data = .fields #[.str x t, .int i 0]) (fun _ => True) where
  item := fun A i h g d tk os o Q E hi hI ho _ q => by
    refine wpAny_pyNext_ascii_item (s := ⟨h, g, d, tk, os⟩) (c := x.cps[i]) ⟨o, hI, ho⟩ (by simp [hi]) fun h' hit' hs' => ?_
    (refine x1_2 (hit') ?_; try clear hit'; intro o' hI' ho')
    exact q _ h' _ o' ⟨_, _, by simp [hi], rfl⟩ ho' hI' hs'
  done := fun A h g d tk os o Q E hh hI ho _ q => wpAny_pyNext_ascii_end (s := ⟨h, g, d, tk, os⟩) hh ⟨o, hI, ho⟩ (by simp) fun h' he' => q h' tk fun b ob hb e => he' b ob hb e
theorem steps_seq {w : World} (I x : Addr) (vs : List Value) : Steps w I vs.length (fun i v => vs[i]? = some v) (fun i o => o = itO x i) (fun h => ∃ o n, h.get? x = some o ∧ o.data = .seq vs.toArray n) where
  item := fun A i h g d tk os o Q E hi hI ho ⟨ox, n, hx, hd⟩ q => by
    subst ho
    obtain ⟨v, hv⟩ : ∃ v, vs[i]? = some v := ⟨_, List.getElem?_eq_getElem hi⟩
    exact it_next hI hx hd hv fun h' hs' hI' => q v h' tk _ hv rfl hI' hs'
  done := fun A h g d tk os o Q E hh hI ho ⟨ox, n, hx, hd⟩ q => by
    subst ho
    exact it_end hh hI hx hd (Nat.le_refl _) fun h' k => q h' tk k
section
variable {w : World} {B : Heap} {L I : Addr} {m : PySem.Str → Option Value} {cl : List (PySem.Str × Addr)} {cm : PySem.Str → Option Value} {rest news : List (Addr × Obj)} {s₀ s : Shared}
theorem Fm.keepAll {h : Heap} {g : Array GenState} {d d₀ : Drawn} {tk tk₀ : Nat} {os : OsState} (F : Fm w B L cl s₀ m cm news ⟨h, g, d₀, tk₀, os⟩) {h' : Heap} (k : ∀ b o, h.get? b = some o → h'.get? b = some o) : Fm w B L cl s₀ m cm news ⟨h', g, d, tk, os⟩ where
  wf := F.wf
  ns := F.ns.keeps k
  keep := fun b o e => k b o (F.keep b o e)
  above := F.above
  nw := fun p hp => let ⟨a, r⟩ := F.nw p hp; ⟨k _ _ a, r⟩
  nd := F.nd
  ce := fun n c e => (F.ce n c e).keeps k
  cd := F.cd
  cp := F.cp
  tb := F.tb.keeps k
  rl := ⟨F.rl.os, F.rl.gens, F.rl.bare, fun t ht ps e => (let ⟨m, e'⟩ := F.rl.tg t ht ps e; ⟨m, k _ _ e'⟩), trivial⟩
theorem ext_keep {h h' : Heap} (he : Heap.ExtBut h.objs.size h h') : ∀ b o, h.get? b = some o → h'.get? b = some o := fun b o e => he b o (fun q => absurd (Heap.lt_size e) (by rw [q]; exact Nat.lt_irrefl _)) e
end
section
variable {w : World} {A : Around} {E : Value → Shared → Prop} {x dx y : Addr} {vs : List Value} {n : Nat} {h : Heap} {g : Array GenState} {d : Drawn} {tk : Nat} {os : OsState}
theorem acc_index {i : Int} {j : Nat} {ti : Tok} {v : Value} {Q : Value → Shared → Prop} (X : (KF w.params).In h) (hx : h.get? x = some (accO dx vs n)) (hi : i = j) (hj : j < 1000) (hv : vs[j]? = some v) (q : Q v ⟨h, g, d, tk, os⟩) :
    wpAny (M w) A (call (.builtin "list.__getitem__") [.ref x, .int i ti]) Q E ⟨h, g, d, tk, os⟩ := by
  refine call_bi (i := "list.__getitem__") (owner := "list") (n := "__getitem__") (b := Builtin.«list.__getitem__») (by first | exact .inr (by decide +kernel) | exact .inl (by decide +kernel)) (by decide +kernel) (by decide +kernel) (entryFor_of_tree (by kernel_rfl)) (by unfold argsOk; kernel_rfl) (looks_inst hx X (by ktn_no "k_ev")) ?_
  have hfit : Builtin.List.listFitsIndex i = true := by
    unfold Builtin.List.listFitsIndex
    simp only [Bool.and_eq_true, decide_eq_true_eq]
    (first | lia | omega)
  unfold Builtin.«list.__getitem__»
  ktn_no "no_call"
  ktn_no "st_one"
  ktn_no "st_one"
  ktn_no "st_one"
  ktn_no "st_one"
  refine wpAny_pure ?_
  dsimp only
  refine wpAny_pure ?_
  dsimp only
  refine wpAny_bind (wpAny_listSubscript_int hfit ?_)
  dsimp only
  subst hi
  show wpAny _ _ ((do return (← seqItemAt x j).map (j, ·)) >>= _) _ _ _
  unfold seqItemAt
  refine wpAny_bind (wpAny_bind (wpAny_bind (wpAny_loadPart hx ?_)))
  dsimp only
  have hv' : vs.toArray[j]? = some v := by simpa using hv
  rw [hv']
  refine wpAny_pure (wpAny_pure ?_)
  dsimp only [Option.map]
  exact wpAny_pure ⟨_, rfl, q⟩
theorem acc_item {value slice : Expr} {k : Value} {Q : Value → Shared → Prop} (X : (KF w.params).In h) (hx : h.get? x = some (accO dx vs n)) (q : wpAny (M w) A (call (.builtin "list.__getitem__") [.ref x, k]) Q E ⟨h, g, d, tk, os⟩)
    (hs : subscripted slice false (.ref x) k = operate [.ref x, k] (getItem (.ref x) k) := by with_unfolding_all rfl) :
    wpAny (M w) A (subscriptTail value slice (.ref x) k) Q E ⟨h, g, d, tk, os⟩ := by
  unfold subscriptTail
  unfold getitemInPython
  refine wpAny_bind (wpAny_bind (st_special hx X (by ktn_no "k_ev") ?_))
  refine wpAny_pure ?_
  rw [hs]
  refine wpAny_bind (st_operate (acc_getItem X hx (wpAny_mono q (fun v s' hv => ?_) fun _ _ z => z)))
  exact wpAny_bind (wpAny_letTemporaryGo (wpAny_pure hv))
theorem sub_tail {M : Model} {s : Shared} {value slice : Expr} {o i : Value} {T id : String} {Q : Value → Shared → Prop} (hT : s.TypeIs o T)
    (hl : typeLookup (.type T) "__getitem__" = pure (some (.builtin id))) (hgo : ∀ r s' (Q : Unit → Shared → Prop), Q () s' → wpAny M A (letTemporaryGo value o r) Q E s') (q : wpAny M A (getItem o i) Q E s)
    (hs : subscripted slice false o i = operate [o, i] (getItem o i) := by with_unfolding_all rfl) :
    wpAny M A (subscriptTail value slice o i) Q E s := by
  unfold subscriptTail
  refine wpAny_bind ?_
  rw [getitemInPython_of_ne hT.not_modules]
  refine wpAny_bind (wpAny_specialOf hT hl ?_)
  have fin : wpAny M A (subscripted slice false o i) (fun r s₃ => wpAny M A (letTemporaryGo value o r >>= fun _ => pure r) Q E s₃) E s := by
    rw [hs]
    exact wpAny_operating (wpAny_mono q (fun r s₃ h₃ => wpAny_bind (hgo _ _ _ (wpAny_pure h₃))) fun _ _ x => x)
  first
    | exact wpAny_pure (wpAny_bind fin)
    | exact wpAny_bind (wpAny_pure (wpAny_bind fin))
    | exact wpAny_bind fin
theorem tup_item {s : Shared} {value slice : Expr} {t : Addr} {l : List Value} {k : Int} {u : Tok} {j : Nat} {v : Value} {Q : Value → Shared → Prop} (ht : IsTup s.heap t l.toArray)
    (hlo : -(2 ^ 63) ≤ k) (hhi : k < 2 ^ 63) (hj : seqIndex? k l.length = some j) (hv : l[j]? = some v) (q : Q v s)
    (hs : subscripted slice false (.ref t) (.int k u) = operate [.ref t, .int k u] (getItem (.ref t) (.int k u)) := by with_unfolding_all rfl) :
    wpAny (M w) A (subscriptTail value slice (.ref t) (.int k u)) Q E s :=
  sub_tail ht.typeIs slot_tuple_getitem.lookup (fun _ _ _ h => wpAny_letTemporaryGo h) (getItem_tuple ht hlo hhi (by simpa using hj) (by simpa using hv) q) hs
theorem str_item {s : Shared} {value slice : Expr} {y : PySem.Str} {t : Tok} {k : Int} {u : Tok} {c : Nat} {Q : Value → Shared → Prop}
    (hr : (decide (k < -(2 ^ 63 : Int)) || decide (k ≥ 2 ^ 63)) = false) (hc : (seqIndex? k y.length).bind (y.cps[·]?) = some c) (q : ∀ t s', s'.heap = s.heap → s'.gens = s.gens → s'.drawn = s.drawn → s'.os = s.os → Q (.str ⟨#[c]⟩ t) s')
    (hs : subscripted slice false (.str y t) (.int k u) = operate [.str y t, .int k u] (getItem (.str y t) (.int k u)) := by with_unfolding_all rfl) :
    wpAny (M w) A (subscriptTail value slice (.str y t) (.int k u)) Q E s :=
  sub_tail (typeIs_str _ _ _) slot_str_getitem.lookup (fun _ _ _ h => wpAny_letTemporaryGo h) (getItem_str hr hc (q _ _ rfl rfl rfl rfl)) hs
theorem tupO_is {h : Heap} {q : Addr} {vs : List Value} (e : h.get? q = some (tupO vs)) : IsTup h q vs.toArray := ⟨_, e, rfl, 0, rfl⟩
end
section
variable {w : World} {B : Heap} {L : Addr} {m : PySem.Str → Option Value} {cl : List (PySem.Str × Addr)} {cm : PySem.Str → Option Value} {news : List (Addr × Obj)} {s₀ : Shared} {A : Around} {E : Value → Shared → Prop} {h : Heap} {g : Array GenState} {d d₀ : Drawn} {tk tk₀ : Nat} {os : OsState} {env : Env}
theorem assign_pair {x1 x2 : PySem.Str} {p1 p2 pos : Pos} {k : Nat} {q : Addr} {v1 v2 : Value} {Q : Unit → Shared → Prop} (F : Fm w B L cl s₀ m cm news ⟨h, g, d₀, tk₀, os⟩) (hh : A.handled = none) (ht : h.get? q = some (tupO [v1, v2]))
    (hk : env.scope.kind = .function) (hx1 : env.kindOf x1 = some .local) (hx2 : env.kindOf x2 = some .local) (hL : env.locals = L)
    (hq : ∀ h' tk', Fm w B L cl s₀ (upd (upd m x1 v1) x2 v2) cm news ⟨h', g, d, tk', os⟩ → Q () ⟨h', g, d, tk', os⟩) : wpAny (M w) A (assign (.Tuple [.Name x1 p1, .Name x2 p2] k pos) env (.ref q)) Q E ⟨h, g, d, tk, os⟩ := by
  refine assign_Tuple_tuple hh (tupO_is ht) rfl rfl fun h₁ he => ?_
  refine assignInOrder_cons (wpAny_assign_Name (st_L (F.keepAll (d := d) (tk := tk) (ext_keep he)) hk hx1 hL fun h₂ F₂ => ?_))
  refine assignInOrder_cons (wpAny_assign_Name (st_L F₂ hk hx2 hL fun h₃ F₃ => ?_))
  exact assignInOrder_nil (hq _ _ F₃)
end
noncomputable abbrev e0 : PySem.Str := Str.ofString ""
/-- a post that stands for another one -/
structure Opq (Q Qo : Flow → Shared → Prop) : Prop where
  to : ∀ f s, Q f s → Qo f s
theorem useQ {Q Qo : Flow → Shared → Prop} (O : Opq Q Qo) {f : Flow} {s : Shared} (h : Q f s) : Qo f s := O.to f s h
theorem wForO {w : World} {A : Around} {target : Expr} {iter : Expr} {body orelse : List Stmt} {pos : Pos} {env : Env} {Q : Flow → Shared → Prop} {s : Shared}
    (h : ∀ Qo, Opq Q Qo → wpAny (M w) A (eval iter env) (fun xv s₁ => wpAny (M w) A (pyIter xv) (fun it s₂ => LoopC w A target it body orelse env Qo s₂) NoE s₁) NoE s)
    (hs : ∀ x, foldedSetIterable iter env x = pure x) : wpAny (M w) A (exec (.For target iter body orelse pos) env) Q NoE s :=
  wFor (h Q ⟨fun _ _ x => x⟩) hs
local macro_rules | `(tactic| ktn_no "x1") => `(tactic| (with_reducible refine useQ (by assumption) ?_))
/-- a word that the split character ends -/
noncomputable def Word (c : Nat) (y : PySem.Str × PySem.Str) : Prop := y.1 = e0 ∧ (∃ l : Array Nat, y.2.cps = l.push c) ∧ y.2.length ≤ 5000
noncomputable def chunk (mx : Int) (st : List PySem.Str × List (PySem.Str × PySem.Str)) (v : PySem.Str) : List PySem.Str × List (PySem.Str × PySem.Str) :=
  if accLen 0 (st.2 ++ [(e0, v)]) > mx ∧ st.2.isEmpty = false then (st.1 ++ [accStr st.2], [(e0, v)]) else (st.1, st.2 ++ [(e0, v)])
theorem down_size (k : Nat) : Builtin.Range.rangeSize (k : Int) 0 (-1) = k := by
  unfold Builtin.Range.rangeSize
  rw [if_neg (by decide)]
  by_cases h : (k : Int) > 0
  · rw [if_pos h]; simp only [Int.neg_neg, Int.ediv_one]; (first | lia | omega)
  · rw [if_neg h]; (first | lia | omega)
theorem down_small (k : Nat) (hk : k ≤ 1000) : Builtin.Range.small (k : Int) 0 (-1) = true := by
  unfold Builtin.Range.small
  simp only [down_size]
  have f : ∀ z : Int, -2000 ≤ z → z ≤ 2000 → Builtin.Range.rangeFitsLong z = true := fun z h1 h2 => by
    unfold Builtin.Range.rangeFitsLong
    simp only [Bool.and_eq_true, decide_eq_true_eq]
    (first | lia | omega)
  simp only [f k (by ktn_no "om") (by ktn_no "om"), f 0 (by ktn_no "om") (by ktn_no "om"), f (-1) (by ktn_no "om") (by ktn_no "om"), f (0 + (-1 + 1)) (by ktn_no "om") (by ktn_no "om"), f (0 + (-1 - 1)) (by ktn_no "om") (by ktn_no "om")]
  simp
theorem Word.b1 {c : Nat} {y : PySem.Str × PySem.Str} (h : Word c y) : y.1.length ≤ 1000000 ∧ y.2.length ≤ 1000000 := ⟨by rw [h.1]; decide, Nat.le_trans h.2.2 (by decide)⟩
theorem Word.b2 {c : Nat} {y : PySem.Str × PySem.Str} (h : Word c y) : y.1.length ≤ 5000 ∧ y.2.length ≤ 5000 := ⟨by rw [h.1]; decide, h.2.2⟩
theorem accLen_b {c : Nat} : ∀ {its : List (PySem.Str × PySem.Str)}, (∀ y ∈ its, Word c y) → 0 ≤ accLen 0 its ∧ accLen 0 its ≤ 5000 * its.length
  | [], _ => by simp [accLen]
  | y :: r, h => by
    have := accLen_b (its := r) fun z hz => h z (.tail _ hz)
    have hy := h y (.head _)
    have h1 : y.1.length = 0 := by rw [hy.1]; decide
    have h2 := hy.2.2
    simp only [accLen, List.map_cons, List.sum_cons, List.length_cons] at this ⊢
    rw [h1]
    push_cast
    (first | lia | omega)
section
variable {w : World} {B : Heap} {L : Addr} {m : PySem.Str → Option Value} {cl : List (PySem.Str × Addr)} {cm : PySem.Str → Option Value} {own rest news : List (Addr × Obj)} {s₀ : Shared} {A : Around} {E : Value → Shared → Prop} {x : Addr} {its : List (PySem.Str × PySem.Str)} {init : Int} {h : Heap} {g g₀ : Array GenState} {d d₀ : Drawn} {tk tk₀ : Nat} {os os₀ : OsState}
theorem accP_method {Q : Value × List Value → Shared → Prop} {pl : Sem Bool} {name : PySem.Str} {f tf : Value} (F : Fm w B L cl s₀ m cm (own ++ rest) ⟨h, g₀, d₀, tk₀, os₀⟩) (P : AccP x its init own)
    (hf : findIn (KF w.params) (.ref a_Acc) name = some (some f)) (ht : typeIn (KF w.params) f = some tf) (ht2 : (tf != .type "function" && tf != .type "method_descriptor" && tf != .type "wrapper_descriptor") = false) (hl : decide (name = "_initial_size") = false)
    (q : Q (f, [.ref x]) ⟨h, g, d, tk, os⟩) : wpAny (M w) A (getMethod (.ref x) name pl) Q E ⟨h, g, d, tk, os⟩ := by
  obtain ⟨dx, nn, k, vs, la, esa, ta, rfl, hEa, hT⟩ := P
  exact acc_method F.K (F.at 0 rfl) (F.at 1 rfl) hEa hf ht ht2 (by simp only [accM, upd]; rw [if_neg (of_decide_eq_false hl)]) q
theorem accP_get {Q : Value → Shared → Prop} {ex : Bool} (F : Fm w B L cl s₀ m cm (own ++ rest) ⟨h, g₀, d₀, tk₀, os₀⟩) (P : AccP x its init own)
    (q : ∀ t, Q (.int init t) ⟨h, g, d, tk + 1, os⟩) : wpAny (M w) A (getAttr (.ref x) "_initial_size" ex) Q E ⟨h, g, d, tk, os⟩ := by
  obtain ⟨dx, nn, k, vs, la, esa, ta, rfl, hEa, hT⟩ := P
  exact acc_get F.K (F.at 0 rfl) (F.at 1 rfl) hEa (by simp [accM, upd]) rfl (q ta)
end
section
variable {w : World} {B : Heap} {L : Addr} {m : PySem.Str → Option Value} {cl : List (PySem.Str × Addr)} {cm : PySem.Str → Option Value} {own rest news : List (Addr × Obj)} {s₀ s : Shared} {A : Around} {E : Value → Shared → Prop} {Q : Value → Shared → Prop} {n : Nat} {x : Addr} {its : List (PySem.Str × PySem.Str)} {lines : List PySem.Str} {mx : Int} {c : Nat}
theorem append_chunk_spec {v : PySem.Str} {t1 t2 : Tok} (R : Room (n + 40) A) (F : Fm w B L cl s₀ m cm (own ++ rest) s) (P : VfP x mx ⟨#[c]⟩ lines its own) (hc : c < 128) (hsp : Txt.isspace ⟨#[c]⟩ = false) (hw : ∀ y ∈ its, Word c y) (hv : Word c (e0, v)) (hz : its.length ≤ 100) (hl : lines.length ≤ 800)
    (h : ∀ own' s', VfP x mx ⟨#[c]⟩ (chunk mx (lines, its) v).1 (chunk mx (lines, its) v).2 own' → Fm w B L cl s₀ m cm (own' ++ rest) s' → Q .none s') :
   wpAny (M w) A (call (.ref a_VF_append_chunk) [.ref x, .str e0 t1, .str v t2] []) Q E s := by
  refine call_fn (binds := [("self", .ref x), ("fws", .str e0 t1), ("string", .str v t2)]) (fd := fd_VF_append_chunk) (cmF := fun _ => none) R F (lk_VF_append_chunk _) (cd_VF_append_chunk _) rfl (BindsTo.of_eq rfl) (by decide) (by kernel_rfl) (fun _ _ e => (by cases e)) (fun _ _ _ e => (by cases e)) ?_ rfl rfl rfl
  obtain ⟨dv, kd, es, u1, u2, u3, u4, ll, ac, l, nl, oa, rfl, hE, hl1, hP⟩ := P
  intro Qo hQo L' s₁ hL F₁ R₁
  obtain ⟨h₁, g₁, d₁, k₁, o₁⟩ := s₁
  ktn_no "ast"
  ktn_no "x"
  refine vf_get F₁.K (F₁.at 0 rfl) (F₁.at 1 rfl) hE (by ktn_no "k_val") (by kernel_rfl) (by ktn_no "k_ev") ?_
  ktn_no "x"
  have F₂ := F₁.perm (news' := oa ++ ((x, vfO dv) :: (dv, dictOf es kd) :: (ll, lsO (strValues l) nl) :: rest)) (by ktn_no "perm_tac")
  refine accP_method F₂ hP (by ktn_no "k_ev") (by ktn_no "k_ev") (by decide +kernel) (by decide +kernel) ?_
  ktn_no "x"
  refine push_spec (n := n + 30) (R₁.less (by ktn_no "le")) (F₂.toks _) hP (by ktn_no "om") fun oa₃ s' P₃ F₃ => ?_
  obtain ⟨h₃, g₃, d₃, k₃, o₃⟩ := s'
  clear F₁ F₂ hP
  have hw2 : ∀ y ∈ its ++ [(e0, v)], Word c y := fun y hy => by
    rcases List.mem_append.mp hy with hy | hy
    · exact hw y hy
    · rw [List.mem_singleton.mp hy]; exact hv
  have F₄ := F₃.perm (news' := (x, vfO dv) :: (dv, dictOf es kd) :: (ll, lsO (strValues l) nl) :: (oa₃ ++ rest)) (by ktn_no "perm_tac")
  have hb := accLen_b hw2
  simp only [List.length_append, List.length_singleton] at hb
  ktn_no "x"
  refine vf_get F₄.K (F₄.at 0 rfl) (F₄.at 1 rfl) hE (by ktn_no "k_val") (by kernel_rfl) (by ktn_no "k_ev") ?_
  ktn_no "x"
  refine len_call (n := n + 10) (R₁.less (by ktn_no "le")) (F₃.toks _) P₃ (fun y hy => (hw2 y hy).b1) hb.1 (by ktn_no "om") fun t₅ s' F₅ => ?_
  obtain ⟨h₅, g₅, d₅, k₅, o₅⟩ := s'
  clear F₃ F₄
  have F₆ := F₅.perm (news' := (x, vfO dv) :: (dv, dictOf es kd) :: (ll, lsO (strValues l) nl) :: (oa₃ ++ rest)) (by ktn_no "perm_tac")
  ktn_no "x"
  refine vf_get F₆.K (F₆.at 0 rfl) (F₆.at 1 rfl) hE (by ktn_no "k_val") (by kernel_rfl) (by ktn_no "k_ev") ?_
  ktn_no "x"
  by_cases hgt : mx < accLen 0 (its ++ [(e0, v)])
  case neg =>
    rw [if_neg (by simpa using hgt)]
    ktn_no "x"
    have e : chunk mx (lines, its) v = (lines, its ++ [(e0, v)]) := if_neg (fun z => hgt z.1)
    refine hQo _ _ <| Back.of (F₆.toks _) fun G => ?_
    refine h ((x, vfO dv) :: (dv, dictOf es kd) :: (ll, lsO (strValues l) nl) :: oa₃) _ ⟨_, _, _, _, _, _, _, _, _, _, _, _, rfl, hE, ?_, ?_⟩ G
    · rw [e]; exact hl1
    · rw [e]; exact P₃
  rw [if_pos (by simpa using hgt)]
  refine wpAny_execs_cons (wForO (fun Qf₁ hQf₁ => ?_) (fun x => rfl))
  ktn_no "x"
  refine vf_get F₆.K (F₆.at 0 rfl) (F₆.at 1 rfl) hE (by ktn_no "k_val") (by kernel_rfl) (by ktn_no "k_ev") ?_
  refine wpAny_pyIter_strU ?_
  have hty : strIterType ⟨#[c]⟩ = "str_ascii_iterator" := by simp [strIterType, hc]
  rw [hty]
  have F₇ := F₆.push1 (d := d₅) (tk := k₅ + 1) ⟨.type "str_ascii_iterator", none, .fields #[.str ⟨#[c]⟩ u4, .int (0 : Nat) 0], #[]⟩
  have S := steps_str (w := w) h₅.objs.size ⟨#[c]⟩ u4
  refine loop_step ?_
  refine Fm.nextI F₇ S (i := 0) Nat.zero_lt_one ⟨rfl, rfl⟩ trivial fun v₈ h₈ k₈ o₈' hv₈ hob₈ F₈ => ?_
  (refine x2_2 (hv₈) ?_; try clear hv₈; intro c' tc hcc eqX3; subst eqX3)
  have hcc : c' = c := by simpa using hcc.symm
  subst hcc
  dsimp only
  refine wpAny_pure (wpAny_assign_Name ?_)
  refine st_L F₈ (by kernel_rfl) (by kernel_rfl!) (by kernel_rfl) fun h₉ F₉ => ?_
  clear F₅ F₆ F₇ F₈
  refine wpAny_execs_cons (wForO (fun Qf₂ hQf₂ => ?_) (fun x => rfl))
  have G₁ := F₉.perm (news' := (x, vfO dv) :: (dv, dictOf es kd) :: (ll, lsO (strValues l) nl) :: (oa₃ ++ ((h₅.objs.size, o₈') :: rest))) (by ktn_no "perm_tac")
  have G₂ := F₉.perm (news' := oa₃ ++ ((x, vfO dv) :: (dv, dictOf es kd) :: (ll, lsO (strValues l) nl) :: (h₅.objs.size, o₈') :: rest)) (by ktn_no "perm_tac")
  ktn_no "x"
  refine vf_get G₁.K (G₁.at 0 rfl) (G₁.at 1 rfl) hE (by ktn_no "k_val") (by kernel_rfl) (by ktn_no "k_ev") ?_
  ktn_no "x"
  refine accP_method G₂ P₃ (by ktn_no "k_ev") (by ktn_no "k_ev") (by decide +kernel) (by decide +kernel) ?_
  ktn_no "x"
  refine part_count_spec (n := n + 30) (R₁.less (by ktn_no "le")) (G₂.toks _) P₃ fun t₁₀ s' F₁₀ => ?_
  obtain ⟨h₁₀, g₁₀, d₁₀, k₁₀, o₁₀⟩ := s'
  clear G₁ G₂
  ktn_no "x"
  have ek : (((its ++ [(e0, v)]).length : Nat) : Int) - 1 = (its.length : Int) := by simp
  rw [ek]
  refine call_range_3 (by decide) ?_ (.inl (PyProof.noPylong_small (by ktn_no "om")))
  have F₁₁ := F₁₀.push1 (d := d₁₀) (tk := k₁₀ + 1 + 1 + 1 + 1 + 1) ⟨.type "range", none, .fields #[.int (its.length : Int) (k₁₀ + 1), .int 0 (k₁₀ + 1 + 1), .int (-1) (k₁₀ + 1 + 1 + 1 + 1)], #[]⟩
  refine wpAny_pyIter_range (F₁₁.at 0 rfl) (down_small _ (by ktn_no "om")) ?_
  rw [down_size]
  have F₁₂ := F₁₁.push1 (d := d₁₀) (tk := k₁₀ + 1 + 1 + 1 + 1 + 1) ⟨.type "range_iterator", none, .fields #[rawInt ((its.length : Int) + (0 : Nat) * (-1)), rawInt ((its.length : Int) - (0 : Nat)), rawInt (-1)], #[]⟩
  rw [show (rawInt (its.length : Int)) = rawInt ((its.length : Int) + (0 : Nat) * (-1)) by simp]
  have SI := steps_range (w := w) (h₁₀.push ⟨.type "range", none, .fields #[.int (its.length : Int) (k₁₀ + 1), .int 0 (k₁₀ + 1 + 1), .int (-1) (k₁₀ + 1 + 1 + 1 + 1)], #[]⟩).objs.size (its.length : Int) (-1) its.length
  dsimp only
  refine loop_step ?_
  rcases Nat.eq_zero_or_pos its.length with hlen | hlen
  case inl =>
    have hnil : its = [] := List.length_eq_zero_iff.mp hlen
    subst hnil
    refine Fm.endI F₁₂ SI R₁.handled (i := 0) rfl rfl trivial fun h₁₃ k₁₃ F₁₃ => ?_
    clear F₁₀ F₁₁ F₁₂
    ktn_no "x"
    refine loop_step ?_
    have F₁₄ := F₁₃.perm (news' := (h₅.objs.size, o₈') :: (h₁₀.objs.size, ⟨.type "range", none, .fields #[.int (([] : List (PySem.Str × PySem.Str)).length : Int) (k₁₀ + 1), .int 0 (k₁₀ + 1 + 1), .int (-1) (k₁₀ + 1 + 1 + 1 + 1)], #[]⟩) :: (x, vfO dv) :: (dv, dictOf es kd) :: (ll, lsO (strValues l) nl) :: (oa₃ ++ rest)) (by ktn_no "perm_tac")
    refine Fm.endI F₁₄ S R₁.handled (i := 1) rfl hob₈ trivial fun h₁₅ k₁₅ F₁₅ => ?_
    have F₁₆ := F₁₅.drop 1
    dsimp only [List.drop] at F₁₆
    clear F₁₃ F₁₄ F₁₅
    ktn_no "x"
    refine Assign_Tuple ?_ rfl rfl
    ktn_no "x"
    refine vf_get F₁₆.K (F₁₆.at 0 rfl) (F₁₆.at 1 rfl) hE (by ktn_no "k_val") (by kernel_rfl) (by ktn_no "k_ev") ?_
    ktn_no "x"
    have G₂ := F₁₆.perm (news' := oa₃ ++ ((x, vfO dv) :: (dv, dictOf es kd) :: (ll, lsO (strValues l) nl) :: rest)) (by ktn_no "perm_tac")
    refine accP_method G₂ P₃ (by ktn_no "k_ev") (by ktn_no "k_ev") (by decide +kernel) (by decide +kernel) ?_
    ktn_no "x"
    refine pop_spec (n := n + 20) (R₁.less (by ktn_no "le")) (G₂.toks _) P₃ (by simp) fun oa₄ q tq1 tq2 s' P₄ F₁₇ => ?_
    obtain ⟨h₁₇, g₁₇, d₁₇, k₁₇, o₁₇⟩ := s'
    clear F₁₆ G₂
    refine assign_pair F₁₇ R₁.handled (F₁₇.at 0 rfl) rfl (by kernel_rfl) (by kernel_rfl) (by kernel_rfl) fun h₁₈ k₁₈ F₁₈ => ?_
    clear F₁₇
    have F₁₉ := (F₁₈.drop 1).perm (news' := (x, vfO dv) :: (dv, dictOf es kd) :: (ll, lsO (strValues l) nl) :: (oa₄ ++ rest)) (by simp only [List.cons_append, List.drop]; ktn_no "perm_tac")
    ktn_no "x"
    refine vf_get F₁₉.K (F₁₉.at 0 rfl) (F₁₉.at 1 rfl) hE (by ktn_no "k_val") (by kernel_rfl) (by ktn_no "k_ev") ?_
    ktn_no "x"
    have G₃ := F₁₉.perm (news' := oa₄ ++ ((x, vfO dv) :: (dv, dictOf es kd) :: (ll, lsO (strValues l) nl) :: rest)) (by ktn_no "perm_tac")
    refine accP_get G₃ P₄ fun ti => ?_
    ktn_no "x"
    rw [if_neg (by decide)]
    ktn_no "x"
    refine vf_get F₁₉.K (F₁₉.at 0 rfl) (F₁₉.at 1 rfl) hE (by ktn_no "k_val") (by kernel_rfl) (by ktn_no "k_ev") ?_
    ktn_no "x"
    refine accP_method G₃ P₄ (by ktn_no "k_ev") (by ktn_no "k_ev") (by decide +kernel) (by decide +kernel) ?_
    ktn_no "x"
    refine push_spec (n := n + 20) (R₁.less (by ktn_no "le")) (G₃.toks _) P₄ (by simp) fun oa₅ s' P₅ F₂₀ => ?_
    obtain ⟨h₂₀, g₂₀, d₂₀, k₂₀, o₂₀⟩ := s'
    ktn_no "x"
    have e : chunk mx (lines, []) v = (lines, [(e0, v)]) := if_neg (fun z => by cases z.2)
    refine hQo _ _ <| Back.of (Fm.toks (F₂₀.perm (news' := ((x, vfO dv) :: (dv, dictOf es kd) :: (ll, lsO (strValues l) nl) :: oa₅) ++ rest) (by ktn_no "perm_tac")) _) fun G => ?_
    refine h ((x, vfO dv) :: (dv, dictOf es kd) :: (ll, lsO (strValues l) nl) :: oa₅) _ ⟨_, _, _, _, _, _, _, _, _, _, _, _, rfl, hE, ?_, ?_⟩ G
    · rw [e]; exact hl1
    · rw [e]; exact P₅
  case inr =>
    refine Fm.nextI F₁₂ SI (i := 0) hlen rfl trivial fun v₁₃ h₁₃ k₁₃ o₁₃' hv₁₃ hob₁₃ F₁₃ => ?_
    obtain ⟨ti, rfl⟩ := hv₁₃
    rw [show (its.length : Int) + ((0 : Nat) : Int) * -1 = (its.length : Int) by simp]
    clear F₁₀ F₁₁ F₁₂
    dsimp only
    refine wpAny_pure (wpAny_assign_Name ?_)
    refine st_L F₁₃ (by kernel_rfl) (by kernel_rfl!) (by kernel_rfl) fun h₁₄ F₁₄ => ?_
    ktn_no "x"
    refine GM.isspace ?_
    ktn_no "x"
    refine SC.isspace ?_
    ktn_no "x"
    rw [hsp, if_neg (by decide)]
    ktn_no "x"
    have G₁ := F₁₄.perm (news' := (x, vfO dv) :: (dv, dictOf es kd) :: (ll, lsO (strValues l) nl) :: (oa₃ ++ ((h₁₀.objs.size + 1, o₁₃') :: (h₁₀.objs.size, ⟨.type "range", none, .fields #[.int (its.length : Int) (k₁₀ + 1), .int 0 (k₁₀ + 1 + 1), .int (-1) (k₁₀ + 1 + 1 + 1 + 1)], #[]⟩) :: (h₅.objs.size, o₈') :: rest))) (by rw [Heap.size_push]; ktn_no "perm_tac")
    obtain ⟨dx, nn, k, vs, la, esa, ta, rfl, hEa, hT⟩ := P₃
    refine Subscript_ (Subscript_ ?_)
    ktn_no "x"
    refine vf_get G₁.K (G₁.at 0 rfl) (G₁.at 1 rfl) hE (by ktn_no "k_val") (by kernel_rfl) (by ktn_no "k_ev") ?_
    ktn_no "x"
    obtain ⟨y, hy⟩ : ∃ y, (its ++ [(e0, v)])[its.length - 1]? = some y := ⟨_, List.getElem?_eq_getElem (by simp; (first | lia | omega))⟩
    have hym := List.mem_of_getElem? hy
    obtain ⟨yf, yp⟩ := y
    (refine x3_2 (hT.get hy) ?_; intro q tq1 tq2 hvq hmq)
    refine acc_item G₁.K (G₁.at 3 rfl) (acc_index G₁.K (G₁.at 3 rfl) (j := its.length - 1) (by ktn_no "om") (by ktn_no "om") hvq ?_)
    ktn_no "x"
    have hq := (G₁.nw _ (show (q, _) ∈ _ from .tail _ (.tail _ (.tail _ (.tail _ (.tail _ (List.mem_append_left _ hmq))))))).1
    refine tup_item (tupO_is hq) (by decide) (by decide) (j := 1) rfl rfl ?_
    refine st_L F₁₄ (by kernel_rfl) (by kernel_rfl!) (by kernel_rfl) fun h₁₅ F₁₅ => ?_
    ktn_no "x"
    obtain ⟨hy1, ⟨ly, hy2⟩, hy3⟩ := hw2 _ hym
    dsimp only at hy2 hy3
    have hyl : yp.length = ly.size + 1 := by show yp.cps.size = _; rw [hy2]; simp
    refine PySem.P.truthy_str (by ktn_no "om") ?_
    rw [if_pos (by rw [hyl]; simp; (first | lia | omega))]
    ktn_no "x"
    refine Subscript_ ?_
    ktn_no "x"
    refine str_item (c := c') rfl ?_ fun ts s' e1 e2 e3 e4 => ?_
    · rw [hyl, show seqIndex? (-1) (ly.size + 1) = some ly.size by unfold seqIndex?; simp; (first | lia | omega)]
      simp [hy2]
    obtain ⟨h₁₆, g₁₆, d₁₆, k₁₆, o₁₆⟩ := s'
    dsimp only at e1 e2 e3 e4
    subst e1 e2 e3 e4
    ktn_no "x"
    refine eq_str ?_
    ktn_no "x"
    rw [if_pos (by simp)]
    ktn_no "x"
    rw [if_pos rfl]
    ktn_no "x"
    have P₄ : AccP ac (its ++ [(e0, v)]) 0 ((ac, accO dx vs nn) :: (dx, dictOf esa k) :: la) := ⟨_, _, _, _, _, _, _, rfl, hEa, hT⟩
    have F₁₆ := (F₁₅.perm (news' := (h₁₀.objs.size + 1, o₁₃') :: (h₁₀.objs.size, ⟨.type "range", none, .fields #[.int (its.length : Int) (k₁₀ + 1), .int 0 (k₁₀ + 1 + 1), .int (-1) (k₁₀ + 1 + 1 + 1 + 1)], #[]⟩) :: (h₅.objs.size, o₈') :: (x, vfO dv) :: (dv, dictOf es kd) :: (ll, lsO (strValues l) nl) :: (((ac, accO dx vs nn) :: (dx, dictOf esa k) :: la) ++ rest)) (by rw [Heap.size_push]; ktn_no "perm_tac")).drop 3
    dsimp only [List.drop] at F₁₆
    clear F₁₄ F₁₅ G₁
    refine vf_get F₁₆.K (F₁₆.at 0 rfl) (F₁₆.at 1 rfl) hE (by ktn_no "k_val") (by kernel_rfl) (by ktn_no "k_ev") ?_
    ktn_no "x"
    have G₂ := F₁₆.perm (news' := ((ac, accO dx vs nn) :: (dx, dictOf esa k) :: la) ++ ((x, vfO dv) :: (dv, dictOf es kd) :: (ll, lsO (strValues l) nl) :: rest)) (by ktn_no "perm_tac")
    refine accP_method G₂ P₄ (by ktn_no "k_ev") (by ktn_no "k_ev") (by decide +kernel) (by decide +kernel) ?_
    ktn_no "x"
    refine pop_from_spec (n := n + 20) (i := its.length) (R₁.less (by ktn_no "le")) (G₂.toks _) P₄ (by simp; (first | lia | omega)) (by simp) fun own1 own2 yl s' P₅ P₆ F₁₇ => ?_
    obtain ⟨h₁₇, g₁₇, d₁₇, k₁₇, o₁₇⟩ := s'
    clear F₁₆ G₂
    rw [show (its ++ [(e0, v)]).take its.length = its by simp] at P₅
    rw [show (its ++ [(e0, v)]).drop its.length = [(e0, v)] by simp] at P₆
    refine st_L F₁₇ (by kernel_rfl) (by kernel_rfl!) (by kernel_rfl) fun h₁₈ F₁₈ => ?_
    clear F₁₇
    have G₁ := F₁₈.perm (news' := (x, vfO dv) :: (dv, dictOf es kd) :: (ll, lsO (strValues l) nl) :: (own1 ++ (own2 ++ rest))) (by ktn_no "perm_tac")
    ktn_no "x"
    refine vf_get G₁.K (G₁.at 0 rfl) (G₁.at 1 rfl) hE (by ktn_no "k_val") (by kernel_rfl) (by ktn_no "k_ev") ?_
    ktn_no "x"
    refine Calls.getMethod_list_append (G₁.at 2 rfl) rfl rfl ?_
    ktn_no "x"
    refine vf_get G₁.K (G₁.at 0 rfl) (G₁.at 1 rfl) hE (by ktn_no "k_val") (by kernel_rfl) (by ktn_no "k_ev") ?_
    ktn_no "x"
    have G₂ := F₁₈.perm (news' := own1 ++ (own2 ++ ((x, vfO dv) :: (dv, dictOf es kd) :: (ll, lsO (strValues l) nl) :: rest))) (by ktn_no "perm_tac")
    refine str_call (n := n + 10) (R₁.less (by ktn_no "le")) (G₂.toks _) P₅ (by ktn_no "om") (fun y hy => (hw y hy).b2) fun t₁₉ s' F₁₉ => ?_
    obtain ⟨h₁₉, g₁₉, d₁₉, k₁₉, o₁₉⟩ := s'
    clear F₁₈ G₁ G₂
    have G₁ := F₁₉.perm (news' := (x, vfO dv) :: (dv, dictOf es kd) :: (ll, lsO (strValues l) nl) :: (own1 ++ (own2 ++ rest))) (by ktn_no "perm_tac")
    ktn_no "x"
    have hll : l.length = lines.length := by rw [← hl1]; simp
    refine append_at (G₁.at 2 rfl) (fun h₂₀ hs₂₀ hx₂₀ => ?_) (by have : (1000 : Nat) ≤ sizeLine := by decide
                                                                 simp [strValues]; (first | lia | omega))
    have F₂₀ := G₁.set1 (i := 2) (d := d₁₉) (tk := k₁₉) rfl hs₂₀ hx₂₀
    dsimp only [List.set] at F₂₀
    clear F₁₉ G₁
    ktn_no "x"
    refine vf_get F₂₀.K (F₂₀.at 0 rfl) (F₂₀.at 1 rfl) hE (by ktn_no "k_val") (by kernel_rfl) (by ktn_no "k_ev") ?_
    ktn_no "x"
    have G₂ := F₂₀.perm (news' := own1 ++ (own2 ++ ((x, vfO dv) :: (dv, dictOf es kd) :: (ll, ⟨.type "list", none, .seq ((strValues l).toArray.push (.str (accStr its) t₁₉)) (nl + 1), #[]⟩) :: rest))) (by ktn_no "perm_tac")
    refine accP_method G₂ P₅ (by ktn_no "k_ev") (by ktn_no "k_ev") (by decide +kernel) (by decide +kernel) ?_
    ktn_no "x"
    refine reset_list (n := n + 20) (R₁.less (by ktn_no "le")) (G₂.toks _) P₅ P₆ (by ktn_no "om") (by simp) fun own3 s' P₇ F₂₁ => ?_
    obtain ⟨h₂₁, g₂₁, d₂₁, k₂₁, o₂₁⟩ := s'
    ktn_no "x"
    have e : chunk mx (lines, its) v = (lines ++ [accStr its], [(e0, v)]) := if_pos ⟨hgt, by cases its with | nil => simp at hlen | cons => rfl⟩
    have e5 : (strValues l).toArray.push (.str (accStr its) t₁₉) = (strValues (l ++ [(accStr its, t₁₉)])).toArray := by simp [strValues]
    rw [e5] at F₂₁
    refine hQo _ _ <| Back.of (F₂₁.perm (news' := ((x, vfO dv) :: (dv, dictOf es kd) :: (ll, ⟨.type "list", none, .seq (strValues (l ++ [(accStr its, t₁₉)])).toArray (nl + 1), #[]⟩) :: own3) ++ rest) (by ktn_no "perm_tac")) fun G => ?_
    refine h ((x, vfO dv) :: (dv, dictOf es kd) :: (ll, lsO (strValues (l ++ [(accStr its, t₁₉)])) (nl + 1)) :: own3) _ ⟨_, _, _, _, _, _, _, _, _, _, _, _, rfl, hE, ?_, ?_⟩ G
    · rw [e]; simp [hl1]
    · rw [e]; exact P₇
end
section
variable {w : World} {B : Heap} {L : Addr} {m : PySem.Str → Option Value} {cl : List (PySem.Str × Addr)} {cm : PySem.Str → Option Value} {own rest news : List (Addr × Obj)} {s₀ : Shared} {A : Around} {E : Value → Shared → Prop} {h : Heap} {g : Array GenState} {d d₀ : Drawn} {tk tk₀ : Nat} {os : OsState}
theorem star_tup {q : Addr} {vs : List Value} {Q : List Value → Shared → Prop} (F : Fm w B L cl s₀ m cm news ⟨h, g, d₀, tk₀, os⟩) (ht : h.get? q = some (tupO vs)) (hz : vs.length ≤ 1000)
    (hq : ∀ h', Fm w B L cl s₀ m cm news ⟨h', g, d, tk, os⟩ → Q vs ⟨h', g, d, tk, os⟩) : StarOf (M w) A E (.ref q) Q ⟨h, g, d, tk, os⟩ := by
  have hT : Shared.TypeIs ⟨h, g, d, tk, os⟩ (.ref q) "tuple" := ⟨_, ht, rfl⟩
  unfold StarOf notIterableAtAll
  refine wpAny_bind (wpAny_specialOf hT PySem.F.slot_tuple_iter.lookup (wpAny_pure ⟨rfl, ?_⟩))
  refine wpAny_collect_seq q (.inr rfl) ht rfl rfl (fun h' hk => ?_) (Nat.le_trans (by simpa using hz) (show (1000 : Nat) ≤ sizeLine by decide))
  simpa using hq h' (F.keepAll hk)
theorem ne_tup2 {a b : Addr} {x1 x2 y1 y2 : PySem.Str} {t1 t2 u1 u2 : Tok} {Q : Value → Shared → Prop} (hA : A.units < cLine) (ha : h.get? a = some (tupO [.str x1 t1, .str x2 t2])) (hb : h.get? b = some (tupO [.str y1 u1, .str y2 u2]))
    (q : Q (.bool (!((x1 == y1) && (x2 == y2)))) ⟨h, g, d, tk, os⟩) : wpAny (M w) A (compareOp .NotEq (.ref a) (.ref b)) Q E ⟨h, g, d, tk, os⟩ := by
  refine SeqAt.RcNeAt.tuples (items := #[.str x1 t1, .str x2 t2]) (items2 := #[.str y1 u1, .str y2 u2]) (e := fun j => if j = 0 then x1 == y1 else x2 == y2) ⟨_, ha, rfl, 0, rfl⟩ ⟨_, hb, rfl, 0, rfl⟩ hA (fun j h1 h2 => ?_) pw w _ _ ?_
  · simp at h1
    rcases j with _ | _ | j
    · exact (eqGives_str _ _ _ _).at _ _
    · exact (eqGives_str _ _ _ _).at _ _
    · (first | lia | omega)
  · have e : (!((List.range (min (#[Value.str x1 t1, .str x2 t2] : Array Value).size (#[Value.str y1 u1, .str y2 u2] : Array Value).size)).all (fun j => if j = 0 then x1 == y1 else x2 == y2) && (#[Value.str x1 t1, .str x2 t2] : Array Value).size == (#[Value.str y1 u1, .str y2 u2] : Array Value).size)) = (!((x1 == y1) && (x2 == y2))) := by
      simp [List.range_succ]
    rw [e]
    exact q
end
section
variable {w : World} {B : Heap} {L : Addr} {m : PySem.Str → Option Value} {cl : List (PySem.Str × Addr)} {cm : PySem.Str → Option Value} {news : List (Addr × Obj)} {s₀ s : Shared} {A : Around} {E : Value → Shared → Prop} {Q : Value → Shared → Prop}
theorem call_fnC {n : Nat} {f : Addr} {oc : Value} {od : Option Addr} {osl : Array (Option Value)} {fd : FuncData} {body : List Stmt} {pos : List Value} {kw : List (PySem.Str × Value)} {binds : List (PySem.Str × Value)} {cmF : PySem.Str → Option Value}
    (R : Room (n + 1) A) (F : Fm w B L cl s₀ m cm news s)
    (ho : (KF w.params).lookup f = some ⟨oc, od, .func fd, osl⟩) (hcd : codeIn (KF w.params) fd.code fd.qualname = true) (hbody : fd.body = .stmts body) (hbind : BindsTo s fd ⟨pos, kw⟩ binds)
    (hcell : (fd.scope.names.all fun x => decide (x.2 ≠ .cell)) = true) (hloc : (binds.all fun x => decide (fd.scope.names.lookup x.1 = some .local)) = true)
    (hcl : ∀ n c, fd.closure.lookup n = some c → c < szTop ∧ ¬ Tab c ∧ ∃ o, (KF w.params).lookup c = some o ∧ o.data = .cell (cmF n)) (hcp : ∀ n n' c, fd.closure.lookup n = some c → fd.closure.lookup n' = some c → n = n')
    (h : ∀ Qo : Flow → Shared → Prop, (∀ fl s', Back w B L m cl cm news s₀ s Q (retV fl) s' → Qo fl s') → ∀ L' s₁, L' = s.heap.objs.size → Fm w (under s news) L' fd.closure s (bnd binds) cmF news s₁ → Room n (A.deeper (callEnv fd L' f)) →
      wpAny (M w) (A.deeper (callEnv fd L' f)) (execs body (callEnv fd L' f)) Qo (fun _ _ => False) s₁)
    (hco : fd.scope.isCoroutine = false) (hgen : fd.scope.isGenerator = false) (hk : fd.scope.kind = .function) : codeAny (M w) A (.call (.ref f) ⟨pos, kw⟩) (fun r s' => match r with | .ok (.ret v) => Q v s' | .ok _ => False | .error e => E e s') s := by
  have X := F.K
  refine (codeAny_call_def (fd := fd) (body := body) (binds := binds) R.lt (X _ _ ho) rfl (F.wf.nl.keeps F.keep) (codeRec_of X hcd) hbody hbind
    (fun x hx => of_decide_eq_true (List.all_eq_true.mp hcell x hx)) (locs hloc) (fun h₁ hns hk₁ => ?_) hco hgen hk)
  have hz : s.heap.objs.size < h₁.objs.size := hns.lt
  refine wpAny_mono (h _ (fun _ _ x => x) s.heap.objs.size _ rfl (F.enter rfl hns hk₁ (Nat.le_of_lt hz) (fun n c e => ?_) (fun n c e => ?_) hcp) R.deeper) (fun fl s' hb => ?_) (fun _ _ x => x.elim)
  · obtain ⟨_, _, o, ho, hd⟩ := hcl n c e
    exact ⟨o, hk₁ _ _ (X _ _ ho), hd⟩
  · obtain ⟨hs, hT, o, ho, hd⟩ := hcl n c e
    refine ⟨Nat.ne_of_lt (Heap.lt_size (X _ _ ho)), fun q => ?_, hT⟩
    (refine x1_2 (List.mem_map.mp q) ?_; intro p hp e')
    exact absurd hs (by rw [← e']; exact Nat.not_lt.mpr (F.nw p hp).2.2.2)
  · cases fl <;> exact hb.go F
end
section
variable {w : World} {B : Heap} {L : Addr} {m : PySem.Str → Option Value} {cl : List (PySem.Str × Addr)} {cm : PySem.Str → Option Value} {own rest news : List (Addr × Obj)} {s₀ s : Shared} {A : Around} {E : Value → Shared → Prop} {Q : Value → Shared → Prop} {n : Nat} {x : Addr} {its : List (PySem.Str × PySem.Str)} {init : Int}
theorem push_code {a b : PySem.Str} {ta tb : Tok} (R : Room (n + 5) A) (F : Fm w B L cl s₀ m cm (own ++ rest) s) (P : AccP x its init own) (hz : its.length ≤ 900)
    (h : ∀ own' s', AccP x (its ++ [(a, b)]) init own' → Fm w B L cl s₀ m cm (own' ++ rest) s' → Q .none s') :
   codeAny (M w) A (.call (.ref a_Acc_push) ⟨[.ref x, .str a ta, .str b tb], []⟩) (fun r s' => match r with | .ok (.ret v) => Q v s' | .ok _ => False | .error e => E e s') s := by
  refine call_fnC (binds := [("self", .ref x), ("fws", .str a ta), ("string", .str b tb)]) (fd := fd_Acc_push) (cmF := fun _ => none) R F (lk_Acc_push _) (cd_Acc_push _) rfl (BindsTo.of_eq rfl) (by decide) (by kernel_rfl) (fun _ _ e => (by cases e)) (fun _ _ _ e => (by cases e)) ?_ rfl rfl rfl
  obtain ⟨dx, n, k, vs, l, es, t, rfl, hE, hT⟩ := P
  intro Qo hQo L' s₁ hL F₁ R₁
  obtain ⟨h₁, g₁, d₁, k₁, o₁⟩ := s₁
  have X := F₁.K
  have hx := F₁.at 0 rfl
  have hd := F₁.at 1 rfl
  ktn_no "ast"
  ktn_no "w"
  refine acc_method X hx hd hE (by ktn_no "k_ev") (by ktn_no "k_ev") (by decide +kernel) (by ktn_no "k_ev") ?_
  ktn_no "w"
  refine st_newTuple (by simp) ?_
  ktn_no "w"
  have F₂ := Fm.push F₁ (tupO [.str a ta, .str b tb]) (tk := k₁)
  have hx' := F₂.at 1 rfl
  refine acc_append F₂.K hx' (by rw [hT.len]; (first | lia | omega)) fun h' n' hs hx'' => ?_
  have F₃ := F₂.set (i := 1) rfl hs hx'' (tk := k₁)
  ktn_no "w"
  refine hQo _ _ <| Back.of (F₃.perm (news' := ((x, accO dx (vs ++ [.ref h₁.objs.size]) n') :: (dx, dictOf es k) :: (l ++ [(h₁.objs.size, tupO [.str a ta, .str b tb])])) ++ rest) ?_) fun G => h _ _ ⟨_, _, _, _, _, _, _, rfl, hE, hT.append (.cons .nil)⟩ G
  simp only [List.cons_append, List.set]
  ktn_no "perm_tac"
end
section
variable {w : World} {A : Around} {E : Value → Shared → Prop} {x dx q : Addr} {vs : List Value} {n : Nat} {h : Heap} {g : Array GenState} {d : Drawn} {tk : Nat} {os : OsState} {env : Env} {pos : Pos} {k c : Nat} {es : List DictEntry} {mm : PySem.Str → Option Value}
theorem acc_bound {Q : Value → Shared → Prop} {ex : Bool} (X : (KF w.params).In h) (hx : h.get? x = some (accO dx vs n)) (hd : h.get? dx = some (dictOf es k)) (hD : EsOk es mm c) (hm : mm "push" = none)
    (q : Q (.ref h.objs.size) ⟨h.push (methodObj (.ref a_Acc_push) (.ref x)), g, d, tk + 1, os⟩) : wpAny (M w) A (getAttr (.ref x) "push" ex) Q E ⟨h, g, d, tk, os⟩ := by
  unfold getAttr getAttrBy
  ktn_no "go"
  rw [show onTheHeap (Value.builtin "list.__getattribute__") = false from rfl, Bool.and_false, if_neg Bool.false_ne_true]
  unfold boundAndCalled
  refine wpAny_bind ?_
  ktn_no "st_one"
  refine call_bi (i := "list.__getattribute__") (owner := "list") (n := "__getattribute__") (b := Builtin.«object.__getattribute__») (by first | exact .inr (by decide +kernel) | exact .inl (by decide +kernel)) (by decide +kernel) (by decide +kernel) (entryFor_alias (id' := "object.__getattribute__") (by decide +kernel) (by decide +kernel) (by decide +kernel) (by rw [fastTable_eq_tree]; kernel_rfl)) (by unfold argsOk; kernel_rfl) (looks_inst hx X (by ktn_no "k_ev")) ?_
  unfold Builtin.«object.__getattribute__»
  have L : Looks (model pw w) h (Builtin.ObjectAttr.find (.ref x) (.ref a_Acc) "push") (.bind (.builtin "function.__get__") (.ref a_Acc_push)) := looks_find X (acc_inst hx hd) (findObj_fn (by ktn_no "k_ev") (by ktn_no "k_ev") (by ktn_no "k_ev") (by ktn_no "k_ev") (by decide +kernel) (by rw [hD.look, hm]))
  repeat (first | (with_reducible refine Looks.at L ?_; dsimp only) | (ktn_no "no_call"; ktn_no "st_one"))
  exact wpAny_call (fn_get (s := ⟨h, g, d, tk + 1, os⟩) X (by ktn_no "k_ev") (wpAny_pure ⟨_, rfl, handed_on rfl q⟩))
theorem mc_star {o e : Expr} {name : PySem.Str} {apos p : Pos} {Q : Value → Shared → Prop} {s : Shared}
    (h : wpAny (M w) A (eval o env) (fun ov s₁ => wpAny (M w) A (getAttr ov name true) (fun f s₂ => wpAny (M w) A (callWith pos f [] (backTo pos (starEach [.Starred e p] env)) []) Q E s₂) E s₁) E s)
    (hbase : attributeBase o name env (eval o env) = eval o env) : wpAny (M w) A (eval (.Call (.Attribute o name apos) [.Starred e p] [] pos) env) Q E s := by
  rw [arm_eval_Call, hbase]
  refine wpAny_bind (wpAny_mono h (fun ov s₁ h₁ => ?_) fun _ _ e => e)
  refine wpAny_bind (wpAny_standAt ?_)
  have hfew : methodCallForm ([Expr.Starred e p].length + ([] : List Keyword).length) (backTo pos (starEach [.Starred e p] env)) (backToKw pos (keywordEach [] env)) = false := rfl
  unfold methodCall
  rw [hfew]
  refine wpAny_bind (wpAny_holding ?_)
  unfold calleeOf
  rw [if_neg (by decide)]
  refine wpAny_bind (wpAny_mono h₁ (fun fx s₂ h₂ => ?_) fun _ _ e => e)
  refine wpAny_pure ?_
  unfold methodCallPos
  exact wpAny_bind (wpAny_pure h₂)
theorem cw_mstar {f : Addr} {e : Expr} {p : Pos} {Q : Value → Shared → Prop} {s : Shared} (hf : fnIn (KF w.params) f = true)
    (h : wpAny (M w) A (eval e env) (fun v s₁ => StarOf (M w) A E v (fun vs s₂ => MethP (KF w.params) q f (.ref x) s₂.heap ∧ codeAny (M w) A (.call (.ref f) ⟨.ref x :: vs, []⟩) (fun r s' => match r with | .ok (.ret v) => Q v s' | .ok _ => False | .error e => E e s') s₂) s₁) E s) :
    wpAny (M w) A (callWith pos (.ref q) [] (backTo pos (starEach [.Starred e p] env)) []) Q E s := by
  have he : starEach [.Starred e p] env = [(true, eval e env)] := rfl
  rw [he]
  refine ks_call (P := MethP (KF w.params) q f (.ref x)) rfl (keeps_M hf) (ks_lone (wpAny_mono h (fun v s₁ h₁ => ?_) fun _ _ z => z))
  unfold StarOf at h₁ ⊢
  refine wpAny_mono h₁ (fun b s₂ ⟨hb, hc⟩ => ⟨hb, wpAny_mono hc (fun vs s₃ ⟨P, hcode⟩ => ⟨P, ?_⟩) fun _ _ z => z⟩) fun _ _ z => z
  refine wpAny_call (codeAny_of_tree ?_)
  show wpAny _ _ (callAny (.ref q) _) _ _ _
  unfold callAny
  refine wpAny_bind (wpAny_load P.1 ?_)
  dsimp only
  rw [if_pos (by decide)]
  exact wpAny_pure ⟨rfl, hcode⟩
end
theorem mem_fold {c : Nat} : ∀ {l : List PySem.Str} {a : PySem.Str}, (c ∈ a.cps ∨ ∃ z ∈ l, c ∈ z.cps) → c ∈ (l.foldl (· ++ ·) a).cps
  | [], a, h => by
    rcases h with h | ⟨z, hz, _⟩
    · exact h
    · cases hz
  | y :: r, a, h => by
    refine mem_fold (l := r) (a := a ++ y) ?_
    have e : (a ++ y).cps = a.cps ++ y.cps := rfl
    rcases h with h | ⟨z, hz, hc⟩
    · exact .inl (by rw [e]; exact Array.mem_append.mpr (.inl h))
    · rcases List.mem_cons.mp hz with rfl | hz
      · exact .inl (by rw [e]; exact Array.mem_append.mpr (.inr hc))
      · exact .inr ⟨z, hz, hc⟩
theorem accStr_fold (its : List (PySem.Str × PySem.Str)) : accStr its = (its.map fun y => y.1 ++ y.2).foldl (· ++ ·) ⟨#[]⟩ := by
  unfold accStr
  rw [eq_of_beq (join_closes (sep := (⟨#[]⟩ : PySem.Str)) (ys := its.map fun y => y.1 ++ y.2) rfl)]
  exact (fold_cat_join_nil _).symm
theorem accStr_space {c : Nat} {its : List (PySem.Str × PySem.Str)} (hc : Txt.isspace ⟨#[c]⟩ = false) (hw : ∀ y ∈ its, Word c y) (hne : its ≠ []) : Txt.isspace (accStr its) = false := by
  have hc' : Unicode.isSpace c = false := by simpa [Txt.isspace, PySem.Str.length] using hc
  obtain ⟨y, hy⟩ := List.exists_mem_of_ne_nil _ hne
  have hm : c ∈ (accStr its).cps := by
    rw [accStr_fold]
    refine mem_fold (.inr ⟨y.1 ++ y.2, List.mem_map_of_mem hy, ?_⟩)
    obtain ⟨_, ⟨l, hl⟩, _⟩ := hw y hy
    show c ∈ y.1.cps ++ y.2.cps
    rw [hl]; simp
  unfold Txt.isspace
  have : (accStr its).cps.all Unicode.isSpace = false := by
    rw [← Bool.not_eq_true, Array.all_eq_true_iff_forall_mem]
    intro h; rw [h c hm] at hc'; cases hc'
  rw [this, Bool.and_false]
theorem accLen_pos {c : Nat} {its : List (PySem.Str × PySem.Str)} (hw : ∀ y ∈ its, Word c y) (hne : its ≠ []) : 0 < accLen 0 its := by
  cases its with
  | nil => exact absurd rfl hne
  | cons y r =>
    have := (accLen_b (its := r) fun z hz => hw z (.tail _ hz)).1
    obtain ⟨_, ⟨l, hl⟩, _⟩ := hw y (.head _)
    have h2 : y.2.length = l.size + 1 := by show y.2.cps.size = _; rw [hl]; simp
    simp only [accLen, List.map_cons, List.sum_cons] at this ⊢
    rw [h2]; push_cast; (first | lia | omega)
section
variable {w : World} {B : Heap} {L : Addr} {m : PySem.Str → Option Value} {cl : List (PySem.Str × Addr)} {cm : PySem.Str → Option Value} {own rest news : List (Addr × Obj)} {s₀ s : Shared} {A : Around} {E : Value → Shared → Prop} {Q : Value → Shared → Prop} {n : Nat} {x : Addr} {its : List (PySem.Str × PySem.Str)} {lines : List PySem.Str} {mx : Int} {c : Nat} {sc : PySem.Str}
theorem newline_spec (R : Room (n + 40) A) (F : Fm w B L cl s₀ m cm (own ++ rest) s) (P : VfP x mx sc lines its own) (hc : Txt.isspace ⟨#[c]⟩ = false) (hne : its ≠ []) (hw : ∀ y ∈ its, Word c y) (hz : its.length ≤ 100) (hl : lines.length ≤ 800)
    (h : ∀ own' s', VfP x mx sc (lines ++ [accStr its]) [] own' → Fm w B L cl s₀ m cm (own' ++ rest) s' → Q .none s') :
   wpAny (M w) A (call (.ref a_VF_newline) [.ref x] []) Q E s := by
  refine call_fn (binds := [("self", .ref x)]) (fd := fd_VF_newline) (cmF := fun _ => none) R F (lk_VF_newline _) (cd_VF_newline _) rfl (BindsTo.of_eq rfl) (by decide) (by kernel_rfl) (fun _ _ e => (by cases e)) (fun _ _ _ e => (by cases e)) ?_ rfl rfl rfl
  obtain ⟨dv, kd, es, u1, u2, u3, u4, ll, ac, l, nl, oa, rfl, hE, hl1, hP⟩ := P
  intro Qo hQo L' s₁ hL F₁ R₁
  obtain ⟨h₁, g₁, d₁, k₁, o₁⟩ := s₁
  ktn_no "ast"
  ktn_no "x"
  refine vf_get F₁.K (F₁.at 0 rfl) (F₁.at 1 rfl) hE (by ktn_no "k_val") (by kernel_rfl) (by ktn_no "k_ev") ?_
  ktn_no "x"
  have F₂ := F₁.perm (news' := oa ++ ((x, vfO dv) :: (dv, dictOf es kd) :: (ll, lsO (strValues l) nl) :: rest)) (by ktn_no "perm_tac")
  refine accP_method F₂ hP (by ktn_no "k_ev") (by ktn_no "k_ev") (by decide +kernel) (by decide +kernel) ?_
  ktn_no "x"
  refine pop_spec (n := n + 20) (R₁.less (by ktn_no "le")) (F₂.toks _) hP (by ktn_no "om") fun oa₃ q tq1 tq2 s' P₃ F₃ => ?_
  obtain ⟨h₃, g₃, d₃, k₃, o₃⟩ := s'
  clear F₁ F₂
  refine st_L F₃ (by kernel_rfl) (by kernel_rfl!) (by kernel_rfl) fun h₄ F₄ => ?_
  clear F₃
  ktn_no "x"
  refine st_newTuple (by simp) ?_
  have F₅ := F₄.push1 (d := d₃) (tk := k₃ + 1 + 1 + 1) (tupO [.str (Str.ofString " ") (k₃ + 1), .str (Str.ofString "") (k₃ + 1 + 1)])
  refine ne_tup2 R₁.cl (F₅.at 1 rfl) (F₅.at 0 rfl) ?_
  have hlast : Word c (its.getLastD ("", "")) := by
    rw [List.getLastD_eq_getLast?, List.getLast?_eq_some_getLast hne]
    exact hw _ (List.getLast_mem hne)
  have e1 : ((its.getLastD ("", "")).1 == (Str.ofString " " : PySem.Str)) = false := by rw [hlast.1]; decide
  rw [e1]
  ktn_no "x"
  rw [if_pos (by simp)]
  have F₆ := (F₅.perm (news' := (h₄.objs.size, tupO [.str (Str.ofString " ") (k₃ + 1), .str (Str.ofString "") (k₃ + 1 + 1)]) :: (x, vfO dv) :: (dv, dictOf es kd) :: (ll, lsO (strValues l) nl) :: (q, tupO [.str (its.getLastD ("", "")).1 tq1, .str (its.getLastD ("", "")).2 tq2]) :: (oa₃ ++ rest)) (by ktn_no "perm_tac")).drop 1
  dsimp only [List.drop] at F₆
  clear F₄ F₅
  refine wpAny_execs_cons (wpAny_Expr_any (mc_star ?_ (by kernel_rfl)) (by kernel_rfl) (by kernel_rfl))
  ktn_no "x"
  refine vf_get F₆.K (F₆.at 0 rfl) (F₆.at 1 rfl) hE (by ktn_no "k_val") (by kernel_rfl) (by ktn_no "k_ev") ?_
  ktn_no "x"
  have G₂ := F₆.perm (news' := oa₃ ++ ((x, vfO dv) :: (dv, dictOf es kd) :: (ll, lsO (strValues l) nl) :: (q, tupO [.str (its.getLastD ("", "")).1 tq1, .str (its.getLastD ("", "")).2 tq2]) :: rest)) (by ktn_no "perm_tac")
  obtain ⟨dx₆, n₆, kk₆, vs₆, la₆, es₆, ta₆, rfl, hE₆, hT₆⟩ := P₃
  refine acc_bound G₂.K (G₂.at 0 rfl) (G₂.at 1 rfl) hE₆ (by kernel_rfl) ?_
  have F₇ := F₆.push1 (d := d₃) (tk := k₃ + 1 + 1 + 1 + 1 + 1) (methodObj (.ref a_Acc_push) (.ref ac))
  refine cw_mstar (x := ac) (f := a_Acc_push) (by kernel_rfl) ?_
  ktn_no "x"
  refine star_tup F₇ (F₇.at 4 rfl) (by simp) fun h₈ F₈ => ⟨⟨F₈.at 0 rfl, F₈.K⟩, ?_⟩
  have F₉ := F₈.drop 1
  dsimp only [List.drop] at F₉
  have G₃ := F₉.perm (news' := ((ac, accO dx₆ vs₆ n₆) :: (dx₆, dictOf es₆ kk₆) :: la₆) ++ ((x, vfO dv) :: (dv, dictOf es kd) :: (ll, lsO (strValues l) nl) :: (q, tupO [.str (its.getLastD ("", "")).1 tq1, .str (its.getLastD ("", "")).2 tq2]) :: rest)) (by ktn_no "perm_tac")
  refine push_code (n := n + 20) (R₁.less (by ktn_no "le")) (G₃.toks _) ⟨_, _, _, _, _, _, _, rfl, hE₆, hT₆⟩ (by simp; (first | lia | omega)) fun oa₁₀ s' P₁₀ F₁₀ => ?_
  obtain ⟨h₁₀, g₁₀, d₁₀, k₁₀, o₁₀⟩ := s'
  clear G₂ G₃ F₆ F₇ F₈ F₉
  have eits : its.dropLast ++ [((its.getLastD ("", "")).1, (its.getLastD ("", "")).2)] = its := by
    have e2 : its.getLastD ("", "") = its.getLast hne := by
      rw [List.getLastD_eq_getLast?, List.getLast?_eq_some_getLast hne]; rfl
    rw [e2]
    exact List.dropLast_concat_getLast hne
  rw [eits] at P₁₀
  have F₁₁ := F₁₀.perm (news' := (x, vfO dv) :: (dv, dictOf es kd) :: (ll, lsO (strValues l) nl) :: (oa₁₀ ++ ((q, tupO [.str (its.getLastD ("", "")).1 tq1, .str (its.getLastD ("", "")).2 tq2]) :: rest))) (by ktn_no "perm_tac")
  have hb := accLen_b hw
  have hpos := accLen_pos hw hne
  ktn_no "x"
  refine vf_get F₁₁.K (F₁₁.at 0 rfl) (F₁₁.at 1 rfl) hE (by ktn_no "k_val") (by kernel_rfl) (by ktn_no "k_ev") ?_
  ktn_no "x"
  refine len_call (n := n + 10) (R₁.less (by ktn_no "le")) (F₁₀.toks _) P₁₀ (fun y hy => (hw y hy).b1) hb.1 (by ktn_no "om") fun t₁₂ s' F₁₂ => ?_
  obtain ⟨h₁₂, g₁₂, d₁₂, k₁₂, o₁₂⟩ := s'
  clear F₁₀ F₁₁
  have F₁₃ := F₁₂.perm (news' := (x, vfO dv) :: (dv, dictOf es kd) :: (ll, lsO (strValues l) nl) :: (oa₁₀ ++ ((q, tupO [.str (its.getLastD ("", "")).1 tq1, .str (its.getLastD ("", "")).2 tq2]) :: rest))) (by ktn_no "perm_tac")
  ktn_no "x"
  rw [if_pos (by simpa using hpos)]
  ktn_no "x"
  refine vf_get F₁₃.K (F₁₃.at 0 rfl) (F₁₃.at 1 rfl) hE (by ktn_no "k_val") (by kernel_rfl) (by ktn_no "k_ev") ?_
  ktn_no "x"
  refine accP_method F₁₂ P₁₀ (by ktn_no "k_ev") (by ktn_no "k_ev") (by decide +kernel) (by decide +kernel) ?_
  ktn_no "x"
  refine onlyws_spec (n := n + 10) (R₁.less (by ktn_no "le")) (F₁₂.toks _) P₁₀ (by ktn_no "om") (fun y hy => (hw y hy).b2) hb.1 (by ktn_no "om") fun s' F₁₄ => ?_
  obtain ⟨h₁₄, g₁₄, d₁₄, k₁₄, o₁₄⟩ := s'
  clear F₁₂ F₁₃
  have F₁₅ := F₁₄.perm (news' := (x, vfO dv) :: (dv, dictOf es kd) :: (ll, lsO (strValues l) nl) :: (oa₁₀ ++ ((q, tupO [.str (its.getLastD ("", "")).1 tq1, .str (its.getLastD ("", "")).2 tq2]) :: rest))) (by ktn_no "perm_tac")
  rw [accStr_space hc hw hne, show (accLen 0 its == 0) = false by simp; (first | lia | omega)]
  ktn_no "x"
  rw [if_neg (by decide)]
  try rw [if_neg (by decide)]
  ktn_no "x"
  refine vf_get F₁₅.K (F₁₅.at 0 rfl) (F₁₅.at 1 rfl) hE (by ktn_no "k_val") (by kernel_rfl) (by ktn_no "k_ev") ?_
  ktn_no "x"
  refine Calls.getMethod_list_append (F₁₅.at 2 rfl) rfl rfl ?_
  ktn_no "x"
  refine vf_get F₁₅.K (F₁₅.at 0 rfl) (F₁₅.at 1 rfl) hE (by ktn_no "k_val") (by kernel_rfl) (by ktn_no "k_ev") ?_
  ktn_no "x"
  refine str_call (n := n + 10) (R₁.less (by ktn_no "le")) (F₁₄.toks _) P₁₀ (by ktn_no "om") (fun y hy => (hw y hy).b2) fun t₁₆ s' F₁₆ => ?_
  obtain ⟨h₁₆, g₁₆, d₁₆, k₁₆, o₁₆⟩ := s'
  clear F₁₄ F₁₅
  have G₁ := F₁₆.perm (news' := (x, vfO dv) :: (dv, dictOf es kd) :: (ll, lsO (strValues l) nl) :: (oa₁₀ ++ ((q, tupO [.str (its.getLastD ("", "")).1 tq1, .str (its.getLastD ("", "")).2 tq2]) :: rest))) (by ktn_no "perm_tac")
  ktn_no "x"
  have hll : l.length = lines.length := by rw [← hl1]; simp
  refine append_at (G₁.at 2 rfl) (fun h₂₀ hs₂₀ hx₂₀ => ?_) (Nat.le_trans (by simp [strValues]; (first | lia | omega)) (show (1000 : Nat) ≤ sizeLine by decide))
  have F₂₀ := G₁.set1 (i := 2) (d := d₁₆) (tk := k₁₆) rfl hs₂₀ hx₂₀
  dsimp only [List.set] at F₂₀
  clear F₁₆ G₁
  ktn_no "x"
  refine vf_get F₂₀.K (F₂₀.at 0 rfl) (F₂₀.at 1 rfl) hE (by ktn_no "k_val") (by kernel_rfl) (by ktn_no "k_ev") ?_
  ktn_no "x"
  have G₂ := F₂₀.perm (news' := oa₁₀ ++ ((x, vfO dv) :: (dv, dictOf es kd) :: (ll, ⟨.type "list", none, .seq ((strValues l).toArray.push (.str (accStr its) t₁₆)) (nl + 1), #[]⟩) :: (q, tupO [.str (its.getLastD ("", "")).1 tq1, .str (its.getLastD ("", "")).2 tq2]) :: rest)) (by ktn_no "perm_tac")
  refine accP_method G₂ P₁₀ (by ktn_no "k_ev") (by ktn_no "k_ev") (by decide +kernel) (by decide +kernel) ?_
  ktn_no "x"
  refine reset_none (n := n + 20) (R₁.less (by ktn_no "le")) (G₂.toks _) P₁₀ (by ktn_no "om") fun own3 s' P₇ F₂₁ => ?_
  obtain ⟨h₂₁, g₂₁, d₂₁, k₂₁, o₂₁⟩ := s'
  ktn_no "x"
  have e5 : (strValues l).toArray.push (.str (accStr its) t₁₆) = (strValues (l ++ [(accStr its, t₁₆)])).toArray := by simp [strValues]
  rw [e5] at F₂₁
  refine hQo _ _ <| Back.of ((F₂₁.perm (news' := (q, tupO [.str (its.getLastD ("", "")).1 tq1, .str (its.getLastD ("", "")).2 tq2]) :: ((x, vfO dv) :: (dv, dictOf es kd) :: (ll, ⟨.type "list", none, .seq (strValues (l ++ [(accStr its, t₁₆)])).toArray (nl + 1), #[]⟩) :: own3) ++ rest) (by ktn_no "perm_tac")).drop 1) fun G => ?_
  exact h ((x, vfO dv) :: (dv, dictOf es kd) :: (ll, lsO (strValues (l ++ [(accStr its, t₁₆)])) (nl + 1)) :: own3) _ ⟨_, _, _, _, _, _, _, _, _, _, _, _, rfl, hE, by simp [hl1], P₇⟩ G
end
section
variable {w : World} {B : Heap} {L : Addr} {m : PySem.Str → Option Value} {cl : List (PySem.Str × Addr)} {cm : PySem.Str → Option Value} {own rest news : List (Addr × Obj)} {s₀ s : Shared} {A : Around} {E : Value → Shared → Prop} {Q : Value → Shared → Prop} {n : Nat} {x : Addr} {its : List (PySem.Str × PySem.Str)} {lines : List PySem.Str} {mx : Int} {c : Nat} {sc : PySem.Str}
theorem vfstr_spec {sep : PySem.Str} {ts : Tok} (R : Room (n + 44) A) (F : Fm w B L cl s₀ m cm (own ++ rest) s) (P : VfP x mx sc lines its own) (hc : Txt.isspace ⟨#[c]⟩ = false) (hne : its ≠ []) (hw : ∀ y ∈ its, Word c y) (hz : its.length ≤ 100) (hl : lines.length ≤ 800)
    (hj : JoinOk sep (lines ++ [accStr its]) = true)
    (h : ∀ t own' s', VfP x mx sc (lines ++ [accStr its]) [] own' → Fm w B L cl s₀ m cm (own' ++ rest) s' → Q (.str (Txt.join sep (lines ++ [accStr its])) t) s') :
   wpAny (M w) A (call (.ref a_VF_str) [.ref x, .str sep ts] []) Q E s := by
  refine call_fn (binds := [("self", .ref x), ("linesep", .str sep ts)]) (fd := fd_VF_str) (cmF := fun _ => none) R F (lk_VF_str _) (cd_VF_str _) rfl (BindsTo.of_eq rfl) (by decide) (by kernel_rfl) (fun _ _ e => (by cases e)) (fun _ _ _ e => (by cases e)) ?_ rfl rfl rfl
  have P₀ := P
  obtain ⟨dv, kd, es, u1, u2, u3, u4, ll, ac, l, nl, oa, rfl, hE, hl1, hP⟩ := P
  intro Qo hQo L' s₁ hL F₁ R₁
  obtain ⟨h₁, g₁, d₁, k₁, o₁⟩ := s₁
  ktn_no "ast"
  ktn_no "x"
  refine vf_method F₁.K (F₁.at 0 rfl) (F₁.at 1 rfl) hE (by ktn_no "k_ev") (by ktn_no "k_ev") (by kernel_rfl) ?_
  ktn_no "x"
  refine newline_spec (n := n + 2) (R₁.less (by ktn_no "le")) (F₁.toks _) P₀ hc hne hw hz hl fun own2 s' P₂ F₂ => ?_
  obtain ⟨h₂, g₂, d₂, k₂, o₂⟩ := s'
  have P₃ := P₂
  obtain ⟨dv, kd, es, u1, u2, u3, u4, ll, ac, l, nl, oa, rfl, hE, hl1, hP⟩ := P₂
  clear F₁
  ktn_no "x"
  refine GM.join ?_
  ktn_no "x"
  refine vf_get F₂.K (F₂.at 0 rfl) (F₂.at 1 rfl) hE (by ktn_no "k_val") (by kernel_rfl) (by ktn_no "k_ev") ?_
  ktn_no "x"
  refine join_tup (F₂.at 2 rfl) (.inl rfl) rfl (by rw [hl1]; exact hj) fun t' k' => ?_
  refine hQo _ _ <| Back.of (Fm.toks F₂ _) fun G => ?_
  rw [hl1]
  exact h _ _ _ P₃ G
end
section
variable {prog : Program} {w : World} {A : Around} {R : GenEnd} {Y : Protocol} {n : Nat} {s₀ : Shared} {c : Code} {fs : List Frame} {s : Shared} {env : Env}
  {K : Flow → Sem Fin} {H : Value → Sem Fin} {gd : Bool → Bool} {lv : List Value → List Value}
/-- a statement that gives out nothing -/
theorem seg_quiet {st : Stmt} {rest : List Stmt} (h : wpAny (model prog w) (A.over c fs) (exec st env) (fun f s' => match f with
      | .next => Seg (model prog w) A R Y n s₀ c ((execs rest env).wrap K H gd lv) fs s'
      | f => Seg (model prog w) A R Y n s₀ c (K f) fs s') (fun _ _ => False) s) :
    Seg (model prog w) A R Y n s₀ c ((execs (st :: rest) env).wrap K H gd lv) fs s := by
  refine seg_execs_cons (seg_wrap (wpAny_mono h (fun f s' h' => ?_) fun _ _ z => z.elim))
  cases f <;> exact h'
theorem seg_bw {α β : Type} {m : Sem α} {k : α → Sem β} {K : β → Sem Fin} (h : wpAny (model prog w) (A.over c fs) m (fun a s' => Seg (model prog w) A R Y n s₀ c ((k a).wrap K H gd lv) fs s') (fun _ _ => False) s) :
    Seg (model prog w) A R Y n s₀ c ((m >>= k).wrap K H gd lv) fs s := by
  rw [Sem.bind_eq_wrap', Sem.wrap_wrap]
  exact seg_wrap (wpAny_mono h (fun _ _ z => z) fun _ _ z => z.elim)
theorem exec_If (test : Expr) (body orelse : List Stmt) (pos : Pos) : exec (.If test body orelse pos) env = (do
    standAt pos
    if ← isTrue test env (eval test env) then execs body env else execs orelse env) := rfl
theorem seg_If {test : Expr} {body orelse : List Stmt} {pos : Pos}
    (h : wpAny (model prog w) (A.over c fs) (isTrue test env (eval test env)) (fun b s' =>
      if b = true then Seg (model prog w) A R Y n s₀ c ((execs body env).wrap K H gd lv) fs s' else Seg (model prog w) A R Y n s₀ c ((execs orelse env).wrap K H gd lv) fs s') (fun _ _ => False) s) :
    Seg (model prog w) A R Y n s₀ c ((exec (.If test body orelse pos) env).wrap K H gd lv) fs s := by
  rw [exec_If]
  refine seg_at ?_
  show Seg _ A R Y n s₀ c (Sem.wrap K H gd lv (isTrue test env (eval test env) >>= fun b => if b = true then execs body env else execs orelse env)) fs s
  refine seg_bw (wpAny_mono h (fun b s' hb => ?_) fun _ _ z => z.elim)
  cases b with
  | true => exact hb
  | false => exact hb
theorem seg_For {target iter : Expr} {body orelse : List Stmt} {pos : Pos} (hs : ∀ x, foldedSetIterable iter env x = pure x)
    (h : wpAny (model prog w) (A.over c fs) (eval iter env) (fun xv s₁ => wpAny (model prog w) (A.over c fs) (pyIter xv) (fun it s₂ =>
      ∀ p, Seg (model prog w) A R Y n s₀ (.forLoop target it body orelse env) ((model prog w).den (.forLoop target it body orelse env))
      (.ret (fun r => ((match r with | .ok f => (.pure f : Sem Flow) | .error e => .raise e).onRaise fun (x : Value) => do
        if (← field x 1) == Value.none then unsupported "frame.own-activation:exception-without-traceback"
        setFlight x env.frame).wrap K H gd lv) none (gd false) (lv []) c p [] :: fs) s₂) (fun _ _ => False) s₁) (fun _ _ => False) s) :
    Seg (model prog w) A R Y n s₀ c ((exec (.For target iter body orelse pos) env).wrap K H gd lv) fs s := by
  rw [arm_exec_For]
  refine seg_at ?_
  show Seg _ A R Y n s₀ c (Sem.wrap K H gd lv (eval iter env >>= fun x => foldedSetIterable iter env x >>= fun x => standAt iter.pos >>= fun _ => holding [x] (pyIter x) >>= fun it => runOwn (.forLoop target it body orelse env) env)) fs s
  refine seg_bw (wpAny_mono h (fun xv s₁ h₁ => ?_) fun _ _ z => z.elim)
  refine seg_bw (wpAny_of_eq (hs xv) ?_)
  refine seg_bw (wpAny_standAt ?_)
  refine seg_bw (wpAny_holding (wpAny_mono h₁ (fun it s₂ h₂ => ?_) fun _ _ z => z.elim))
  exact seg_call h₂
/-- one turn of a for loop -/
theorem seg_forLoop {target : Expr} {it : Value} {body orelse : List Stmt}
    (h : wpAny (model prog w) (A.over (.forLoop target it body orelse env) fs) (pyNext it) (fun r s₁ => match r with
      | none => Seg (model prog w) A R Y n s₀ (.block orelse env) ((model prog w).den (.block orelse env)) fs s₁
      | some v => wpAny (model prog w) (A.over (.forLoop target it body orelse env) fs) (letOwnedTupleGo target it v) (fun _ s₂ => wpAny (model prog w) (A.over (.forLoop target it body orelse env) fs) (assign target env v) (fun _ s₃ =>
          Seg (model prog w) A R Y n s₀ (.forLoop target it body orelse env) ((execs body env).wrap (fun f => match f with
            | .next | .cont => .pure (.again (.forLoop target it body orelse env))
            | .brk => .pure (.done .next)
            | .ret v => .pure (.done (.ret v))) (fun e => (do noteFrame e env; theTreesLotGoes e : Sem Unit).wrap (fun _ => .raise e) .raise id id) id id) fs s₃) (fun _ _ => False) s₂) (fun _ _ => False) s₁) (fun _ _ => False) s) :
    Seg (model prog w) A R Y n s₀ (.forLoop target it body orelse env) ((model prog w).den (.forLoop target it body orelse env)) fs s := by
  show Seg _ A R Y n s₀ _ ((forTurn target it body orelse env).onRaise (fun x => do noteFrame x env; theTreesLotGoes x)) fs s
  unfold forTurn
  rw [Sem.onRaise_eq_wrap]
  refine seg_bw (wpAny_standAt ?_)
  refine seg_bw (wpAny_onRaise (wpAny_mono h (fun r s₁ h₁ => ?_) fun _ _ z => z.elim))
  cases r with
  | none => exact seg_again rfl h₁
  | some v =>
    refine seg_bw (wpAny_mono h₁ (fun _ s₂ h₂ => ?_) fun _ _ z => z.elim)
    refine seg_bw (wpAny_mono h₂ (fun _ s₃ h₃ => ?_) fun _ _ z => z.elim)
    rw [Sem.bind_eq_wrap', Sem.wrap_wrap]
    rw [Sem.wrap_congr (execs body env) _ _ (K' := fun f => match f with
            | .next | .cont => .pure (.again (.forLoop target it body orelse env))
            | .brk => .pure (.done .next)
            | .ret v => .pure (.done (.ret v))) (H' := (fun e => (do noteFrame e env; theTreesLotGoes e : Sem Unit).wrap (fun _ => .raise e) .raise id id))
        (fun f => by cases f <;> rfl) (fun e => by show (do noteFrame e env; theTreesLotGoes e : Sem Unit).bind (fun _ => .raise e) = _; rw [Sem.bind_eq_wrap])]
    exact h₃
end
section
variable {prog : Program} {w : World} {A : Around} {E : Value → Shared → Prop} {s : Shared}
theorem genNext {a : Addr} {g n : Nat} {gs : GenState} {P : Nat → Shared → Shared → Prop} {Y : Protocol} {Q : Option Value → Shared → Prop} (hh : A.handled = none)
    (hl : s.heap.NoLimit) (hroom : A.depth < recursionLimit) (hg : s.heap.IsGen a g) (hgs : s.gens[g]? = some gs)
    (hgo : gs.Goes (model prog w) A.in1 (fun n s₀ r s₁ => r = .ok (.ret .none) ∧ P n s₀ s₁) Y n (.send .none) (s.setGen g .running))
    (hY : ∀ v s₁ gs', gs'.bare = true → Y (n - 1) (s.setGen g .running) v s₁ (fun r' s'' => match n with
        | 0 => False
        | m + 1 => gs'.Goes (model prog w) A.in1 (fun n s₀ r s₁ => r = .ok (.ret .none) ∧ P n s₀ s₁) Y m r' s'') → Q (some v) (s₁.setGen g gs'))
    (hP : ∀ s₁, P n (s.setGen g .running) s₁ → ∀ h', (∀ b o, s₁.heap.get? b = some o → h'.get? b = some o) → Q none { s₁.setGen g .finished with heap := h' }) :
    wpAny (model prog w) A (pyNext (.ref a)) Q E s := by
  unfold pyNext
  refine wpAny_bind (wpAny_attempt (wpAny_callSpecial?_slot (name := Str.ofString "__next__") hg.typeIs slot_gen_next
    (wpAny_call_entry slot_gen_next hg.typeIs entry_gen_next ?_ (args_gen_next _))))
  show wpAny _ A.in1 (Builtin.Generator.genWake (.ref a) (.send .none)) _ _ s
  unfold Builtin.Generator.genWake
  refine wpAny_bind (wpAny_holding (wpAny_genNumber hg (wpAny_bind (wpAny_genState hgs ?_))))
  cases gs with
  | running => exact hgo.elim
  | finished => exact hgo.elim
  | _ =>
    refine wpAny_bind (wpAny_roomToWake hl hroom ?_)
    show wpAny _ A.in1 (.resume g (.send .none) [] _) _ _ s
    refine wpAny_resumeQ hgs hgo (fun x s₁ hx => ?_) (fun v s₁ gs' hb hv => ?_)
    · obtain ⟨rfl, hp⟩ := hx
      show wpAny _ A.in1 (newExc (.type "StopIteration") [] >>= _) _ _ _
      refine wpAny_bind ?_
      simp only [newExc, newTuple]
      refine wpAny_bind (wpAny_newObj_type ?_ (by size_fits))
      refine wpAny_bind (m := firstArgMember _ _) (wpAny_of_eq (a := Value.none) (by first | rfl | (simp only [firstArgMember]; rfl)) ?_)
      refine wpAny_newObj_type ?_ (by size_fits)
      simp only [raiseNew]
      refine wpAny_bind (wpAny_bind (wpAny_handled ?_))
      first | rw [show A.in1.handled = none from hh] | rw [hh]
      refine wpAny_throw ?_
      refine wpAny_bind (wpAny_isInstance (T := "StopIteration") (b := true) ⟨_, Heap.get?_push_size _ rfl, rfl⟩ isSubtype_stop ?_)
      exact wpAny_pure (hP s₁ hp _ fun b o hb => Heap.get?_push_of_some _ (Heap.get?_push_of_some _ hb))
    · exact wpAny_pure ⟨v, rfl, wpAny_pure (hY v s₁ gs' hb hv)⟩
end
/-- the units of a text: a backslash and what follows are one; place and unit -/
noncomputable def esc : List Nat → Nat → Bool → Nat → List (Nat × PySem.Str)
  | [], _, e, last => if e then [(last, ⟨#[92]⟩)] else []
  | c :: r, p, e, _ => if e then (p, ⟨#[92, c]⟩) :: esc r (p + 1) false p else if c = 92 then esc r (p + 1) true p else (p, ⟨#[c]⟩) :: esc r (p + 1) false p
noncomputable def units (x : PySem.Str) : List (Nat × PySem.Str) := esc x.cps.toList 0 false 0
noncomputable abbrev enumO (S : Addr) (i : Int) (old : Value) : Obj := ⟨.type "enumerate", none, .fields #[.none, .bool false, .ref S, rawInt i, .none, old], #[]⟩
noncomputable abbrev enumP (S : Addr) (i : Int) (item : Value) (a : Addr) : Obj := ⟨.type "enumerate", none, .fields #[rawInt a, .bool false, .ref S, rawInt i, .none, item], #[]⟩
noncomputable def SiO (x : PySem.Str) (tx : Tok) (p : Nat) (o : Obj) : Prop := o.cls = .type "str_ascii_iterator" ∧ o.data = .fields #[.str x tx, .int p 0]
section
variable {w : World} {B : Heap} {L E S : Addr} {m : PySem.Str → Option Value} {cl : List (PySem.Str × Addr)} {cm : PySem.Str → Option Value} {more news : List (Addr × Obj)} {s₀ s : Shared} {A : Around} {h h' : Heap} {g : Array GenState} {d d₀ : Drawn} {tk tk₀ : Nat} {os : OsState} {oE oS oE' oS' : Obj}
theorem Fm.set2 (F : Fm w B L cl s₀ m cm ((E, oE) :: (S, oS) :: more) ⟨h, g, d₀, tk₀, os⟩) (k : ∀ b o, b ≠ E → b ≠ S → h.get? b = some o → h'.get? b = some o) (hE : h'.get? E = some oE') (hS : h'.get? S = some oS') :
    Fm w B L cl s₀ m cm ((E, oE') :: (S, oS') :: more) ⟨h', g, d, tk, os⟩ := by
  (refine x0_4 (F.nw _ (.head _)) ?_; intro _ hEL hEB hEs)
  (refine x0_4 (F.nw _ (.tail _ (.head _))) ?_; intro _ hSL hSB hSs)
  have hnd := F.nd
  simp only [List.map_cons, List.nodup_cons, List.mem_cons, not_or] at hnd
  obtain ⟨⟨hES, hEm⟩, hSm, hm⟩ := hnd
  (refine x3_2 (F.ns) ?_; intro oL es ep hL r)
  have kk : ∀ b o, b ≠ E → b ≠ S → (⟨h, g, d₀, tk₀, os⟩ : Shared).heap.get? b = some o → h'.get? b = some o := k
  refine { wf := F.wf, ns := ⟨oL, es, ep, kk _ _ hEL.symm hSL.symm hL, r⟩, keep := fun b ob e => kk b ob (fun q => by rw [q, hEB] at e; cases e) (fun q => by rw [q, hSB] at e; cases e) (F.keep b ob e), above := F.above, nw := fun p hp => ?_, nd := ?_, ce := fun n c e => ?_, cd := fun n c e => ?_, cp := F.cp, tb := F.tb.part fun b ob hb e => kk b ob (fun q => absurd hb (by rw [q]; exact Nat.not_lt.mpr hEs)) (fun q => absurd hb (by rw [q]; exact Nat.not_lt.mpr hSs)) e, rl := ⟨F.rl.os, F.rl.gens, F.rl.bare, fun t ht ps e => ?_, trivial⟩ }
  · rcases List.mem_cons.mp hp with rfl | hp
    · exact ⟨hE, hEL, hEB, hEs⟩
    · rcases List.mem_cons.mp hp with rfl | hp
      · exact ⟨hS, hSL, hSB, hSs⟩
      · (refine x0_4 (F.nw p (.tail _ (.tail _ hp))) ?_; intro a b c d)
        exact ⟨kk _ _ (fun q => hEm (List.mem_map.mpr ⟨p, hp, q⟩)) (fun q => hSm (List.mem_map.mpr ⟨p, hp, q⟩)) a, b, c, d⟩
  · simp only [List.map_cons, List.nodup_cons, List.mem_cons, not_or]
    exact ⟨⟨hES, hEm⟩, hSm, hm⟩
  · (refine x1_2 (F.ce n c e) ?_; intro oc hoc hd)
    have := (F.cd n c e).2.1
    simp only [List.map_cons, List.mem_cons, not_or] at this
    exact ⟨oc, kk _ _ this.1 this.2.1 hoc, hd⟩
  · (refine x0_3 (F.cd n c e) ?_; intro a b c')
    refine ⟨a, ?_, c'⟩
    simpa using b
  · obtain ⟨m, e'⟩ := F.rl.tg t ht ps e
    exact ⟨m, kk _ _ (fun q => tab_ne ht hEs q.symm) (fun q => tab_ne ht hSs q.symm) e'⟩
theorem enum_next {x : PySem.Str} {tx : Tok} {p c : Nat} {old : Value} {Q : Option Value → Shared → Prop} {Er : Value → Shared → Prop} (F : Fm w B L cl s₀ m cm ((E, enumO S p old) :: (S, oS) :: more) ⟨h, g, d₀, tk₀, os⟩) (hh : A.handled = none) (ho : SiO x tx p oS) (hc : x.cps[p]? = some c)
    (q : ∀ h' tk' t1 t2 oS', SiO x tx (p + 1) oS' → Fm w B L cl s₀ m cm ((h.objs.size, tupO [.int p t1, .str ⟨#[c]⟩ t2]) :: (E, enumP S (p + 1) (.str ⟨#[c]⟩ t2) h.objs.size) :: (S, oS') :: more) ⟨h', g, d, tk', os⟩ → Q (some (.ref h.objs.size)) ⟨h', g, d, tk', os⟩) :
    wpAny (M w) A (pyNext (.ref E)) Q Er ⟨h, g, d, tk, os⟩ := by
  have hnd := F.nd
  simp only [List.map_cons, List.nodup_cons, List.mem_cons, not_or] at hnd
  have hlt : p < x.cps.size := by
    rcases Nat.lt_or_ge p x.cps.size with z | z
    · exact z
    · rw [Array.getElem?_eq_none z] at hc; cases hc
  have D := Draws.strAscii (prog := pw) (w := w) (A := A.in1) hh S x tx
  refine wpAny_pyNext_enum_itemD (s := ⟨h, g, d, tk, os⟩) D (F.at 0 rfl) ⟨oS, F.at 1 rfl, ho⟩ hlt hnd.1.1 (by simpa using hnd.1.1) fun y h' tk' hP ho' hs' hT hsz hk => ?_
  (refine x2_2 (hP) ?_; try clear hP; intro c' t2 hc' eqX3; subst eqX3)
  rw [hc] at hc'; cases hc'
  (refine x1_2 (hs') ?_; try clear hs'; intro oS' hS' hd')
  have F₁ := F.withD (d := d) (tk := tk)
  have F₂ := Fm.set2 (h' := h') (d := d) (tk := tk' + 1) F (fun b o h1 h2 e => hk b o h1 h2 e) ho' hS'
  refine q h' (tk' + 1) tk' t2 oS' hd' ?_
  have hB : B.get? h.objs.size = none := by
    cases z : B.get? h.objs.size with
    | none => rfl
    | some o => exact absurd (Heap.lt_size (F.keep _ _ z)) (Nat.lt_irrefl _)
  have nm : h.objs.size ∉ ((E, enumO S p old) :: (S, oS) :: more).map (·.1) := fun z => by
    simp only [List.map_cons, List.mem_cons] at z
    rcases z with z | z | z
    · exact absurd (Heap.lt_size (F.at 0 rfl)) (by rw [← z]; exact Nat.lt_irrefl _)
    · exact absurd (Heap.lt_size (F.at 1 rfl)) (by rw [← z]; exact Nat.lt_irrefl _)
    · (refine x1_2 (List.mem_map.mp z) ?_; intro pp hp e)
      exact absurd (Heap.lt_size (F.nw pp (.tail _ (.tail _ hp))).1) (by rw [e]; exact Nat.lt_irrefl _)
  refine { F₂ with nw := fun pp hp => ?_, nd := ?_, cd := fun n cc e => ?_ }
  · rcases List.mem_cons.mp hp with rfl | hp
    · exact ⟨hT, fun z => absurd F.ns.lt (by rw [← z]; exact Nat.lt_irrefl _), hB, Nat.le_trans F.szL (Nat.le_of_lt F.ns.lt)⟩
    · exact F₂.nw pp hp
  · exact List.nodup_cons.mpr ⟨nm, F₂.nd⟩
  · (refine x0_3 (F₂.cd n cc e) ?_; intro a b c'')
    refine ⟨a, fun z => ?_, c''⟩
    rcases List.mem_cons.mp z with z | z
    · (refine x1_2 (F.ce n cc e) ?_; intro oc hoc _)
      exact absurd (Heap.lt_size hoc) (by rw [z]; exact Nat.lt_irrefl _)
    · exact b z
theorem enum_go {p : Int} {T : Addr} {item : Value} {oT : Obj} {elts : List Expr} {k : Nat} {pos : Pos} {Q : Unit → Shared → Prop} {Er : Value → Shared → Prop} (F : Fm w B L cl s₀ m cm ((T, oT) :: (E, enumP S p item T) :: more) ⟨h, g, d₀, tk₀, os⟩)
    (q : ∀ h', Fm w B L cl s₀ m cm ((T, oT) :: (E, enumO S p item) :: more) ⟨h', g, d, tk, os⟩ → Q () ⟨h', g, d, tk, os⟩) : wpAny (M w) A (letOwnedTupleGo (.Tuple elts k pos) (.ref E) (.ref T)) Q Er ⟨h, g, d, tk, os⟩ :=
  wpAny_letOwnedTupleGo_enum (s := ⟨h, g, d, tk, os⟩) (F.at 1 rfl) fun h' he' hs' => q h' (F.set1 (i := 1) rfl hs' he')
theorem ascii_end {it : Addr} {x : PySem.Str} {t : Tok} {i : Nat} {s : Shared} {Q : Value → Shared → Prop} {Er : Value → Shared → Prop} (hh : A.handled = none)
    (hit : s.heap.IsStrIter it "str_ascii_iterator" x t i) (hx : x.cps[i]? = none)
    (hE : ∀ h' e, Heap.ExtBut it s.heap h' → (∃ o, h'.get? it = some o) → (∃ o, h'.get? e = some o ∧ o.cls = .type "StopIteration") → Er (.ref e) { s with heap := h' }) :
    wpAny (M w) A (Builtin.SmallTypes.nextOf (.ref it)) Q Er s := by
  (refine x1_3 (id hit) ?_; intro o ho hc hd)
  unfold Builtin.SmallTypes.nextOf
  refine wpAny_bind (wpAny_callSpecial?_slot (name := Str.ofString "__next__") hit.typeIs PySem.F.slot_str_ascii_iterator_next
    (wpAny_call_entry PySem.F.slot_str_ascii_iterator_next hit.typeIs PySem.F.entry_str_ascii_iterator_next ?_ (PySem.F.args_str_ascii_iterator_next_1 _)))
  show wpAny _ _ (field (.ref it) 0 >>= _) _ _ s
  refine wpAny_bind (wpAny_field ho hd (x := .str x t) rfl ?_)
  show wpAny _ _ (field (.ref it) 1 >>= _) _ _ s
  refine wpAny_bind (wpAny_field ho hd (x := .int i 0) rfl ?_)
  simp only [Int.toNat_natCast, hx]
  refine wpAny_bind (wpAny_rule (wpAny_bind (wpAny_setField ho hd (by simp) (wpAny_bind (wpAny_letGo ?_)))))
  show wpAny _ _ (newExc (.type "StopIteration") [] >>= _) _ _ _
  refine wpAny_bind ?_
  simp only [newExc, newTuple]
  refine wpAny_bind (wpAny_newObj_type ?_ (by size_fits))
  refine wpAny_bind (m := firstArgMember _ _) (wpAny_of_eq (a := Value.none) (by first | rfl | (simp only [firstArgMember]; rfl)) ?_)
  refine wpAny_newObj_type ?_ (by size_fits)
  simp only [raiseNew]
  refine wpAny_bind (wpAny_handled ?_)
  first | rw [show A.in1.handled = none from hh] | rw [hh]
  refine wpAny_bind (wpAny_pure (wpAny_throw ?_))
  refine hE _ _ (((Heap.SameBut.update ..).extBut.push _).push _) ⟨_, Heap.get?_push_of_some _ (Heap.get?_push_of_some _ (Heap.get?_update_self _ ho (Obj.isFreed_of_fields (Obj.data_mapFields hd _))))⟩ ⟨_, Heap.get?_push_size _ rfl, rfl⟩
theorem enum_end {x : PySem.Str} {tx : Tok} {p : Nat} {old : Value} {Q : Option Value → Shared → Prop} {Er : Value → Shared → Prop} (F : Fm w B L cl s₀ m cm ((E, enumO S p old) :: (S, oS) :: more) ⟨h, g, d₀, tk₀, os⟩) (hh : A.handled = none) (ho : SiO x tx p oS) (hc : x.cps.size = p)
    (q : ∀ h' oS', Fm w B L cl s₀ m cm ((E, enumO S p old) :: (S, oS') :: more) ⟨h', g, d, tk, os⟩ → Q none ⟨h', g, d, tk, os⟩) : wpAny (M w) A (pyNext (.ref E)) Q Er ⟨h, g, d, tk, os⟩ := by
  have he : IsEnum h E S (p : Nat) old := F.at 0 rfl
  have hnd := F.nd
  simp only [List.map_cons, List.nodup_cons, List.mem_cons, not_or] at hnd
  have hT : (⟨h, g, d, tk, os⟩ : Shared).TypeIs (.ref E) "enumerate" := ⟨_, he, rfl⟩
  unfold pyNext
  refine wpAny_bind (wpAny_attempt (wpAny_callSpecial?_slot (name := Str.ofString "__next__") hT PySem.F.slot_enumerate_next
    (wpAny_call_entry PySem.F.slot_enumerate_next hT PySem.F.entry_enumerate_next ?_ (PySem.F.args_enumerate_next_1 _))))
  show wpAny _ _ (field (.ref E) 2 >>= _) _ _ _
  refine wpAny_bind (wpAny_field he rfl (x := .ref S) rfl ?_)
  refine wpAny_bind (ascii_end (s := ⟨h, g, d, tk, os⟩) (A := A.in1) hh ⟨oS, F.at 1 rfl, ho⟩ (by rw [← hc]; simp) fun h' xx he' hx2 hx' => ?_)
  (refine x1_2 (hx') ?_; try clear hx'; intro o ho' hc')
  obtain ⟨oS', hS'⟩ := hx2
  refine wpAny_bind (wpAny_isInstance (T := "StopIteration") (b := true) ⟨o, ho', hc'⟩ isSubtype_stop ?_)
  refine wpAny_pure (q _ oS' (Fm.set2 F (fun b ob h1 h2 e => he' b ob h2 e) (he' _ _ hnd.1.1 he) hS'))
end
noncomputable def NsO (o : Obj) (m : PySem.Str → Option Value) : Prop := ∃ es ep, o.data = .dict es ep ∧ StrKeys es ∧ ∀ name, nsFind es name = m name
theorem ns_of {h : Heap} {a : Addr} {m : PySem.Str → Option Value} (x : h.Ns a m) : ∃ o, h.get? a = some o ∧ NsO o m := let ⟨o, es, ep, e, r⟩ := x; ⟨o, e, es, ep, r⟩
theorem NsO.at {h : Heap} {a : Addr} {o : Obj} {m : PySem.Str → Option Value} (x : NsO o m) (e : h.get? a = some o) : h.Ns a m := let ⟨es, ep, r⟩ := x; ⟨o, es, ep, e, r⟩
noncomputable abbrev Bg (Lg E S : Addr) (h : Heap) : Heap := hideAll h [T1, T2, Lg, E, S]
section
variable {w : World} {B : Heap} {L Lg E S I : Addr} {m mG : PySem.Str → Option Value} {cm : PySem.Str → Option Value} {rest news own own' : List (Addr × Obj)} {s₀ s s₁ : Shared} {oL oL' oI : Obj}
/-- the generator's frame, seen from its own side -/
theorem Fm.toGen (F : Fm w B L [] s₀ m cm news s) (hm : (Lg, oL) ∈ news) (hN : NsO oL mG) (hE : B.get? E = none) (hS : B.get? S = none) (hown : ∀ p ∈ own, p ∈ news ∧ (p.1 = E ∨ p.1 = S) ∧ p.1 ≠ Lg) (hnd : (own.map (·.1)).Nodup) :
    Fm w (Bg Lg E S s.heap) Lg [] s mG (fun _ => none) own s := by
  (refine x0_4 (F.nw _ hm) ?_; intro a1 a2 a3 a4)
  have kB : ∀ b o, B.get? b = some o → (Bg Lg E S s.heap).get? b = some o := fun b o e => by
    refine hideAll_get _ (F.keep b o e) fun q => ?_
    simp only [List.mem_cons, List.not_mem_nil, or_false] at q
    rcases q with q | q | q | q | q
    · rw [q, F.wf.t1] at e; cases e
    · rw [q, F.wf.t2] at e; cases e
    · rw [q, a3] at e; cases e
    · rw [q, hE] at e; cases e
    · rw [q, hS] at e; cases e
  exact {
    wf := { k := fun a o e => kB a o (F.wf.k a o e), g := let ⟨mg, h⟩ := F.wf.g; ⟨mg, h.keeps kB⟩, b := let ⟨mb, h, r⟩ := F.wf.b; ⟨mb, h.keeps kB, r⟩, nl := F.wf.nl.keeps kB,
            bm := let ⟨mg, bm, ob, a, b, c, d, e⟩ := F.wf.bm; ⟨mg, bm, ob, a.keeps kB, b, c, kB _ _ d, e⟩,
            sz := by show szTop ≤ (hideAll s.heap _).objs.size; rw [hideAll_size]; exact Nat.le_trans F.szL (Nat.le_of_lt F.ns.lt)
            t1 := hideAll_none _ (.head _), t2 := hideAll_none _ (.tail _ (.head _)) }
    ns := hN.at a1
    keep := fun b o e => of_hideAll _ e
    above := ⟨hideAll_none _ (.tail _ (.tail _ (.head _))), a4⟩
    nw := fun p hp => by
      (refine x0_3 (hown p hp) ?_; intro h1 h2 h3)
      (refine x0_4 (F.nw p h1) ?_; intro b1 b2 b3 b4)
      refine ⟨b1, h3, ?_, b4⟩
      rcases h2 with h2 | h2
      · rw [h2]; exact hideAll_none _ (.tail _ (.tail _ (.tail _ (.head _))))
      · rw [h2]; exact hideAll_none _ (.tail _ (.tail _ (.tail _ (.tail _ (.head _)))))
    nd := hnd
    ce := fun n c e => by cases e
    cd := fun n c e => by cases e
    cp := fun n n' c e => by cases e
    tb := F.tb
    rl := Rel.refl s }
/-- and back -/
theorem Fm.fromGen (F : Fm w B L [] s₀ m cm news s) (G : Fm w (Bg Lg E S s.heap) Lg [] s mG (fun _ => none) own s₁) (hperm : news.Perm ((Lg, oL) :: own' ++ rest)) (ho : ∀ p ∈ rest, p.1 ≠ E ∧ p.1 ≠ S) (hE : B.get? E = none) (hS : B.get? S = none) (hEL : E ≠ L) (hSL : S ≠ L) :
    ∃ oL', NsO oL' mG ∧ Fm w B L [] s₀ m cm ((Lg, oL') :: own ++ rest) s₁ := by
  have F := F.perm hperm
  have hm : (Lg, oL) ∈ (Lg, oL) :: own' ++ rest := .head _
  (refine x0_4 (F.nw _ hm) ?_; intro a1 a2 a3 a4)
  have hndF := F.nd
  rw [List.cons_append, List.map_cons, List.nodup_cons, List.map_append, List.nodup_append] at hndF
  (refine x1_2 (ns_of G.ns) ?_; intro oL' hL' hN')
  refine ⟨oL', hN', ?_⟩
  have big : ∀ b, szTop ≤ b → b ≠ Lg → b ≠ E → b ≠ S → b ∉ [T1, T2, Lg, E, S] := fun b hb h1 h2 h3 q => by
    simp only [List.mem_cons, List.not_mem_nil, or_false] at q
    rcases q with q | q | q | q | q
    · exact tab_ne (.inl rfl) hb q
    · exact tab_ne (.inr rfl) hb q
    · exact h1 q
    · exact h2 q
    · exact h3 q
  have kB : ∀ b o, B.get? b = some o → (Bg Lg E S s.heap).get? b = some o := fun b o e => by
    refine hideAll_get _ (F.keep b o e) fun q => ?_
    simp only [List.mem_cons, List.not_mem_nil, or_false] at q
    rcases q with q | q | q | q | q
    · rw [q, F.wf.t1] at e; cases e
    · rw [q, F.wf.t2] at e; cases e
    · rw [q, a3] at e; cases e
    · rw [q, hE] at e; cases e
    · rw [q, hS] at e; cases e
  have kr : ∀ p ∈ rest, (Bg Lg E S s.heap).get? p.1 = some p.2 := fun p hp => by
    (refine x0_4 (F.nw p (by simp [hp])) ?_; intro b1 b2 b3 b4)
    exact hideAll_get _ b1 (big _ b4 (fun q => hndF.1 (List.mem_append_right _ (List.mem_map.mpr ⟨p, hp, q⟩))) (ho p hp).1 (ho p hp).2)
  have nr : ∀ p ∈ own, p.1 ∉ rest.map (·.1) := fun p hp q => by
    (refine x1_2 (List.mem_map.mp q) ?_; intro r hr e)
    have := (G.nw p hp).2.2.1
    rw [← e, kr r hr] at this; cases this
  (refine x1_2 (ns_of F.ns) ?_; intro oF hF hNF)
  have kL : (Bg Lg E S s.heap).get? L = some oF := hideAll_get _ hF (big _ F.szL a2.symm hEL.symm hSL.symm)
  exact {
    wf := F.wf
    ns := hNF.at (G.keep _ _ kL)
    keep := fun b o e => G.keep b o (kB b o e)
    above := F.above
    nw := fun p hp => by
      rcases List.mem_cons.mp hp with rfl | hp
      · exact ⟨hL', a2, a3, a4⟩
      · rcases List.mem_append.mp hp with hp | hp
        · (refine x0_4 (G.nw p hp) ?_; intro b1 b2 b3 b4)
          refine ⟨b1, fun q => ?_, ?_, b4⟩
          · rw [q, kL] at b3; cases b3
          · cases q : B.get? p.1 with
            | none => rfl
            | some o => rw [kB _ _ q] at b3; cases b3
        · (refine x0_4 (F.nw p (by simp [hp])) ?_; intro b1 b2 b3 b4)
          exact ⟨G.keep _ _ (kr p hp), b2, b3, b4⟩
    nd := by
      rw [List.cons_append, List.map_cons, List.nodup_cons, List.map_append, List.nodup_append]
      refine ⟨fun q => ?_, G.nd, hndF.2.2.1, fun x hx y hy e => ?_⟩
      · rcases List.mem_append.mp q with q | q
        · (refine x1_2 (List.mem_map.mp q) ?_; intro r hr e)
          exact (G.nw r hr).2.1 e
        · exact hndF.1 (List.mem_append_right _ q)
      · (refine x1_2 (List.mem_map.mp hx) ?_; intro r hr e')
        exact nr r hr (by rw [e', e]; exact hy)
    ce := fun n c e => by cases e
    cd := fun n c e => by cases e
    cp := fun n n' c e => by cases e
    tb := G.tb
    rl := F.rl.trans G.rl }
theorem Fm.gset (F : Fm w B L [] s₀ m cm news s) {g : Nat} (hg : s₀.gens.size ≤ g) {x : GenState} (hx : x.bare = true) : Fm w B L [] s₀ m cm news (s.setGen g x) := by
  refine { F with rl := ⟨F.rl.os, fun k y e => ?_, fun hb => ?_, F.rl.tg, trivial⟩ }
  · have hk : k < s₀.gens.size := (Array.getElem?_eq_some_iff.mp e).1
    have := F.rl.gens k y e
    have h2 := (GenOnly.setGen s g x).2 k (by ktn_no "om")
    rw [h2]; exact this
  · refine GenOnlyQ.bare (.inr ⟨GenOnly.setGen s g x, fun z hz => ?_⟩) (F.rl.bare hb)
    simp only [Shared.setGen, Array.getElem?_setIfInBounds] at hz
    split at hz
    · split at hz
      · cases hz; exact hx
      · cases hz
    · rename_i q; exact absurd trivial q
theorem Fm.rebase (F : Fm w B L [] s₀ m cm news s) : Fm w B L [] s m cm news s := { F with rl := Rel.refl s }
theorem Fm.unbase (F : Fm w B L [] s m cm news s₁) (r : Rel s₀ s) : Fm w B L [] s₀ m cm news s₁ := { F with rl := r.trans F.rl }
end
noncomputable def forParts : Stmt → Expr × Expr × List Stmt × List Stmt × Pos
  | .For t i b o p => (t, i, b, o, p)
  | _ => (default, default, [], [], default)
noncomputable abbrev itFor : Stmt := body_iter_escaped_chars.getD 2 default
noncomputable abbrev itT : Expr := (forParts itFor).1
noncomputable abbrev itB : List Stmt := (forParts itFor).2.2.1
noncomputable abbrev itIf : Stmt := body_iter_escaped_chars.getD 3 default
noncomputable abbrev gEnv (Lg : Addr) : Env := callEnv fd_iter_escaped_chars Lg a_iter_escaped_chars
noncomputable abbrev noC : PySem.Str → Option Value := fun _ => none
noncomputable def PG (w : World) (Lg E S : Addr) : Nat → Shared → Shared → Prop := fun n s₀ s₁ => n = 0 ∧ ∃ mG oE oS, Fm w (Bg Lg E S s₀.heap) Lg [] s₀ mG noC [(E, oE), (S, oS)] s₁
noncomputable abbrev RG (w : World) (Lg E S : Addr) : GenEnd := fun n s₀ r s₁ => r = .ok (.ret .none) ∧ PG w Lg E S n s₀ s₁
noncomputable def YG (w : World) (Lg E S : Addr) (U : List (Nat × PySem.Str)) : Protocol := fun n s₀ v s₁ kap => ∃ mG oE oS q a b t1 t2, U[U.length - 1 - n]? = some (a, b) ∧ v = .ref q ∧
  Fm w (Bg Lg E S s₀.heap) Lg [] s₀ mG noC [(q, tupO [.int (a : Nat) t1, .str b t2]), (E, oE), (S, oS)] s₁ ∧
  ∀ s'', Fm w (Bg Lg E S s''.heap) Lg [] s'' mG noC [(E, oE), (S, oS)] s'' → kap (.send .none) s''
section
variable {w : World} {A : Around} {Lg E S : Addr} {x : PySem.Str} {tx : Tok} {U : List (Nat × PySem.Str)}
theorem U_get {pre : List (Nat × PySem.Str)} {y : Nat × PySem.Str} {r : List (Nat × PySem.Str)} (h : U = pre ++ y :: r) : U[U.length - 1 - r.length]? = some y := by
  subst h
  have : (pre ++ y :: r).length - 1 - r.length = pre.length := by simp
  rw [this]; simp
theorem U_next {pre : List (Nat × PySem.Str)} {y : Nat × PySem.Str} {r : List (Nat × PySem.Str)} (h : U = pre ++ y :: r) : U = (pre ++ [y]) ++ r := by rw [h]; simp
noncomputable def Left (x : PySem.Str) (p : Nat) (r : List Nat) : Prop := x.cps.toList.drop p = r ∧ (x.cps.size = p + r.length)
theorem drop_cons {p c : Nat} {r : List Nat} (h : Left x p (c :: r)) : x.cps[p]? = some c ∧ Left x (p + 1) r := by
  obtain ⟨h1, h2⟩ := h
  refine ⟨?_, ?_, by simp at h2; (first | lia | omega)⟩
  · have : x.cps.toList[p]? = some c := by
      have := congrArg (fun l => l[0]?) h1
      simpa using this
    simpa using this
  · rw [← List.drop_drop, h1]; rfl
theorem seg_loop {p0 : Pos} {kf : Result → Sem PySem.Fin} (hA : ∀ c k c' p, (A.over c [.ret k none false [] c' p []]).handled = none)
    (hend : ∀ (e : Bool) (last : Nat) (s₀ s : Shared) (mG : PySem.Str → Option Value) (tl : Tok) (c : Code) (pre : List (Nat × PySem.Str)) (oE oS : Obj), Fm w (Bg Lg E S s₀.heap) Lg [] s₀ mG noC [(E, oE), (S, oS)] s → mG "escape" = some (.bool e) → mG "pos" = some (.int (last : Nat) tl) → U = pre ++ esc [] 0 e last →
      Seg (M w) A (RG w Lg E S) (YG w Lg E S U) (esc [] 0 e last).length s₀ c (leafOf (.ok .next)) [.ret kf none false [] (.func body_iter_escaped_chars (gEnv Lg)) p0 []] s) :
    ∀ (r : List Nat) (p : Nat) (e : Bool) (last : Nat) (s₀ s : Shared) (mG : PySem.Str → Option Value) (old : Value) (oS : Obj) (tl : Tok) (pre : List (Nat × PySem.Str)), Left x p r → Fm w (Bg Lg E S s₀.heap) Lg [] s₀ mG noC [(E, enumO S p old), (S, oS)] s → SiO x tx p oS →
      mG "escape" = some (.bool e) → mG "pos" = some (.int (last : Nat) tl) → U = pre ++ esc r p e last →
      Seg (M w) A (RG w Lg E S) (YG w Lg E S U) (esc r p e last).length s₀ (.forLoop itT (.ref E) itB [] (gEnv Lg)) ((M w).den (.forLoop itT (.ref E) itB [] (gEnv Lg))) [.ret kf none false [] (.func body_iter_escaped_chars (gEnv Lg)) p0 []] s
  | [], p, e, last, s₀, s, mG, old, oS, tl, pre, hr, F, ho, he, hp, hU => by
    obtain ⟨h, g, d, tk, os⟩ := s
    refine seg_forLoop ?_
    have hsz : x.cps.size = p := hr.2
    refine enum_end F (hA _ _ _ _) ho hsz fun h' oS' F' => ?_
    exact hend e last s₀ _ mG tl _ pre _ _ F' he hp hU
  | c :: r, p, e, last, s₀, s, mG, old, oS, tl, pre, hr, F, ho, he, hp, hU => by
    obtain ⟨h, g, d, tk, os⟩ := s
    refine seg_forLoop ?_
    obtain ⟨hc, hr'⟩ := drop_cons hr
    refine enum_next F (hA _ _ _ _) ho hc fun h₁ k₁ t1 t2 oS₁ ho₁ F₁ => ?_
    dsimp only
    refine enum_go F₁ fun h₂ F₂ => ?_
    refine assign_pair F₂ (hA _ _ _ _) (F₂.at 0 rfl) rfl (by kernel_rfl) (by kernel_rfl) (by kernel_rfl) fun h₃ k₃ F₃ => ?_
    have F₄ := F₃.drop 1
    dsimp only [List.drop] at F₄
    clear F F₁ F₂ F₃
    ktn_no "ast_seg"
    refine seg_execs_cons (seg_If ?_)
    ktn_no "x"
    cases e with
    | true =>
      have eU : esc (c :: r) p true last = (p, ⟨#[92, c]⟩) :: esc r (p + 1) false p := rfl
      rw [eU] at hU ⊢
      rw [if_pos rfl]
      refine seg_execs_cons (seg_Expr_Yield rfl rfl rfl ?_)
      ktn_no "x"
      refine add_str (fun t' k' => ?_) (by show (1 : Nat) + 1 ≤ sizeLine; decide)
      ktn_no "x"
      refine st_newTuple (by simp) ?_
      intro kap hk
      have F₅ := F₄.push1 (d := d) (tk := k') (tupO [.int (p : Nat) t1, .str (Str.ofString "\\" ++ ⟨#[c]⟩) t'])
      refine ⟨_, _, _, _, p, ⟨#[92, c]⟩, t1, t', U_get hU, rfl, F₅, fun s'' F₆ => hk _ _ ?_⟩
      dsimp only
      obtain ⟨h₆, g₆, d₆, k₆, o₆⟩ := s''
      refine seg_quiet ?_
      ktn_no "x"
      rename_i h₇ F₇
      refine seg_execs_nil (seg_execs_nil (seg_again rfl ?_))
      exact seg_loop hA hend r (p + 1) false p _ _ _ _ _ _ _ hr' F₇ ho₁ (by ktn_no "k_val") (by ktn_no "k_val") (U_next hU)
    | false =>
      rw [if_neg (by decide)]
      refine seg_execs_cons (seg_If ?_)
      ktn_no "x"
      refine eq_str ?_
      ktn_no "x"
      by_cases hcc : c = 92
      · subst hcc
        have eU : esc (92 :: r) p false last = esc r (p + 1) true p := by simp [esc]
        rw [eU] at hU ⊢
        rw [if_pos (by decide)]
        refine seg_quiet ?_
        ktn_no "x"
        rename_i h₇ F₇
        refine seg_execs_nil (seg_execs_nil (seg_execs_nil (seg_again rfl ?_)))
        exact seg_loop hA hend r (p + 1) true p _ _ _ _ _ _ _ hr' F₇ ho₁ (by ktn_no "k_val") (by ktn_no "k_val") hU
      · have eU : esc (c :: r) p false last = (p, ⟨#[c]⟩) :: esc r (p + 1) false p := by simp [esc, hcc]
        rw [eU] at hU ⊢
        rw [if_neg (by intro z; have z := eq_of_beq z; rw [show (Str.ofString "\\" : PySem.Str) = ⟨#[92]⟩ by decide] at z; exact hcc (by simpa using z))]
        refine seg_execs_cons (seg_Expr_Yield rfl rfl rfl ?_)
        ktn_no "x"
        refine st_newTuple (by simp) ?_
        intro kap hk
        have F₅ := F₄.push1 (d := d) (tk := k₃ + 1) (tupO [.int (p : Nat) t1, .str ⟨#[c]⟩ t2])
        refine ⟨_, _, _, _, p, ⟨#[c]⟩, t1, t2, U_get hU, rfl, F₅, fun s'' F₆ => hk _ _ ?_⟩
        dsimp only
        obtain ⟨h₆, g₆, d₆, k₆, o₆⟩ := s''
        refine seg_execs_nil (seg_execs_nil (seg_execs_nil (seg_again rfl ?_)))
        exact seg_loop hA hend r (p + 1) false p _ _ _ _ _ _ _ hr' F₆ ho₁ (by ktn_no "k_val") (by ktn_no "k_val") (U_next hU)
end
section
variable {w : World} {B : Heap} {L : Addr} {m : PySem.Str → Option Value} {cl : List (PySem.Str × Addr)} {cm : PySem.Str → Option Value} {more : List (Addr × Obj)} {s₀ s : Shared} {A : Around} {E : Value → Shared → Prop}
  {h : Heap} {g g₀ : Array GenState} {d d₀ : Drawn} {tk tk₀ : Nat} {os os₀ : OsState} {env : Env} {x : PySem.Str} {v : Value}
theorem st_Lz {Q : Unit → Shared → Prop} (F : Fm w B L cl s₀ m cm more ⟨h, g, d₀, tk₀, os⟩) (hk : env.scope.kind = .function) (hx : env.kindOf x = some .local) (hL : env.locals = L)
    (q : ∀ h', h'.objs.size = h.objs.size → Fm w B L cl s₀ (upd m x v) cm more ⟨h', g, d, tk + 1, os⟩ → Q () ⟨h', g, d, tk + 1, os⟩) : wpAny (M w) A (storeName env x v) Q E ⟨h, g, d, tk, os⟩ := by
  subst hL
  exact wpAny_storeName_local hx F.ns (fun h' hn hs => q h' hs.1 (Fm.store (s := ⟨h, g, d, tk, os⟩) (F.withD (d := d) (tk := tk)) hn hs)) (by rw [hk]; rfl)
theorem Fm.add {a : Addr} {o : Obj} (F : Fm w B L [] s₀ m cm more s) (hx : s.heap.get? a = some o) (h1 : a ≠ L) (h2 : B.get? a = none) (h3 : szTop ≤ a) (h4 : a ∉ more.map (·.1)) : Fm w B L [] s₀ m cm ((a, o) :: more) s :=
  { F with
    nw := fun p hp => by
      rcases List.mem_cons.mp hp with rfl | hp
      · exact ⟨hx, h1, h2, h3⟩
      · exact F.nw p hp
    nd := List.nodup_cons.mpr ⟨h4, F.nd⟩
    ce := fun n c e => by cases e
    cd := fun n c e => by cases e }
theorem Fm.fresh {a : Addr} (F : Fm w B L [] s₀ m cm more s) (ha : s.heap.objs.size ≤ a) : a ≠ L ∧ B.get? a = none ∧ szTop ≤ a ∧ a ∉ more.map (·.1) := by
  refine ⟨fun e => absurd F.ns.lt (by rw [← e]; exact Nat.not_lt.mpr ha), ?_, Nat.le_trans (Nat.le_trans F.szL (Nat.le_of_lt F.ns.lt)) ha, fun q => ?_⟩
  · cases q : B.get? a with
    | none => rfl
    | some o => exact absurd (Heap.lt_size (F.keep _ _ q)) (Nat.not_lt.mpr ha)
  · (refine x1_2 (List.mem_map.mp q) ?_; intro p hp e)
    exact absurd (Heap.lt_size (F.nw p hp).1) (by rw [e]; exact Nat.not_lt.mpr ha)
theorem enum_make {tx : Tok} {Q : Value → Shared → Prop} (F : Fm w B L [] s₀ m cm more ⟨h, g, d₀, tk₀, os⟩) (ha : x.cps.all (· < 128) = true)
    (q : ∀ h' oS, SiO x tx 0 oS → Fm w B L [] s₀ m cm ((h.objs.size + 1, enumO h.objs.size ((0 : Nat) : Int) .none) :: (h.objs.size, oS) :: more) ⟨h', g, d, tk, os⟩ → Q (.ref (h.objs.size + 1)) ⟨h', g, d, tk, os⟩) :
    wpAny (M w) A (call (.type "enumerate") [.str x tx]) Q E ⟨h, g, d, tk, os⟩ := by
  refine call_enumerate_str (s := ⟨h, g, d, tk, os⟩) fun h' hE hS hz hk => ?_
  (refine x1_2 (hS) ?_; try clear hS; intro oS hS1 hS2)
  have hty : strIterType x = "str_ascii_iterator" := by simp [strIterType, ha]
  rw [hty] at hS2
  have F₁ := Fm.keepAll (d := d) (tk := tk) F hk
  (refine x0_4 (Fm.fresh (a := h.objs.size) F (Nat.le_refl _)) ?_; intro a1 a2 a3 a4)
  (refine x0_4 (Fm.fresh (a := h.objs.size + 1) F (Nat.le_succ _)) ?_; intro b1 b2 b3 b4)
  have F₂ := Fm.add F₁ hS1 a1 a2 a3 a4
  refine q h' oS hS2 (Fm.add F₂ hE b1 b2 b3 ?_)
  rw [List.map_cons, List.mem_cons, not_or]
  exact ⟨Nat.succ_ne_self _, b4⟩
end
section
variable {w : World} {A : Around} {Lg E S : Addr} {x : PySem.Str} {tx : Tok} {U : List (Nat × PySem.Str)}
theorem seg_start (hA : ∀ c k c' p, (A.over c [.ret k none false [] c' p []]).handled = none) {h : Heap} {g : Array GenState} {d : Drawn} {tk : Nat} {os : OsState} {mG : PySem.Str → Option Value} (ha : x.cps.all (· < 128) = true) (hm : mG "addr" = some (.str x tx)) (hE : E = h.objs.size + 1) (hS : S = h.objs.size)
    (F : Fm w (Bg Lg E S h) Lg [] ⟨h, g, d, tk, os⟩ mG noC [] ⟨h, g, d, tk, os⟩) :
    Seg (M w) A (RG w Lg E S) (YG w Lg E S (units x)) (units x).length ⟨h, g, d, tk, os⟩ (.func body_iter_escaped_chars (gEnv Lg)) ((M w).den (.func body_iter_escaped_chars (gEnv Lg))) [] ⟨h, g, d, tk, os⟩ := by
  refine seg_func ?_
  ktn_no "ast_seg"
  refine seg_quiet (wpAny_Assign_Name (wpAny_Constant_int ?_) (by kernel_rfl))
  refine st_Lz F (by kernel_rfl) (by kernel_rfl!) (by kernel_rfl) fun h₁ hz₁ F₁ => ?_
  dsimp only
  refine seg_quiet (wpAny_Assign_Name (Constant_bool ?_) (by kernel_rfl))
  refine st_Lz F₁ (by kernel_rfl) (by kernel_rfl!) (by kernel_rfl) fun h₂ hz₂ F₂ => ?_
  dsimp only
  refine seg_execs_cons (seg_For (fun x => rfl) ?_)
  ktn_no "x"
  refine enum_make F₂ ha fun h₃ oS hoS F₃ => ?_
  rw [hz₂, hz₁, ← hE, ← hS] at F₃
  rw [hz₂, hz₁, ← hE]
  refine wpAny_pyIter_enum (F₃.at 0 rfl) fun p0 => ?_
  refine seg_loop hA ?_ x.cps.toList 0 false 0 _ _ _ _ _ _ [] ⟨rfl, by simp⟩ F₃ hoS (by ktn_no "k_val") (by ktn_no "k_val") rfl
  intro e last s₀ s mG' tl c pre oE' oS' F' he hp hU
  refine seg_leaf (.ok .next) ?_
  obtain ⟨h', g', d', k', o'⟩ := s
  show Seg _ _ _ _ _ _ _ (Sem.wrap (fun f => Sem.pure (Fin.done (Flow.ret (match f with | .ret v => v | _ => Value.none)))) (fun e => Sem.wrap (fun _ => Sem.raise e) Sem.raise id id (leaving (gEnv Lg) e)) id id (execs [itIf] (gEnv Lg))) _ _
  ktn_no "ast_seg"
  refine seg_execs_cons (seg_If ?_)
  ktn_no "x"
  cases e with
  | true =>
    rw [if_pos rfl]
    show Seg (M w) A (RG w Lg E S) (YG w Lg E S (units x)) 1 _ _ _ _ _
    refine seg_execs_cons (seg_Expr_Yield rfl rfl rfl ?_)
    ktn_no "x"
    refine st_newTuple (by simp) ?_
    intro kap hk
    have F₅ := F'.push1 (d := d') (tk := k' + 1) (tupO [.int (last : Nat) tl, .str (Str.ofString "\\") k'])
    refine ⟨_, _, _, _, last, ⟨#[92]⟩, tl, k', U_get (r := []) hU, rfl, F₅, fun s'' F₆ => hk _ _ ?_⟩
    exact seg_execs_nil (seg_execs_nil (seg_end (.ok (.ret .none)) ⟨rfl, rfl, _, _, _, F₆⟩))
  | false =>
    rw [if_neg (by decide)]
    exact seg_execs_nil (seg_execs_nil (seg_end (.ok (.ret .none)) ⟨rfl, rfl, _, _, _, F'⟩))
end
noncomputable def GenO (o : Obj) (g : Nat) : Prop := ∃ nm qn, o.cls = .type "generator" ∧ o.data = .fields #[.int g 0, nm, qn] ∧ o.slots = #[]
/-- a generator that has yet to give us -/
inductive GenSt (w : World) (A : Around) : List (Nat × PySem.Str) → Addr → Nat → List (Addr × Obj) → GenState → Prop
  | fresh {x : PySem.Str} {tx : Tok} {I Lg : Addr} {g : Nat} {oI oL : Obj} {mG : PySem.Str → Option Value} : GenO oI g → NsO oL mG → mG "addr" = some (.str x tx) → x.cps.all (· < 128) = true → GenSt w A (units x) I g [(I, oI), (Lg, oL)] (.fresh (.func body_iter_escaped_chars (gEnv Lg)))
  | susp {us U pre : List (Nat × PySem.Str)} {I Lg E S : Addr} {g : Nat} {oI oL oE oS : Obj} {mG : PySem.Str → Option Value} {gs : GenState} : GenO oI g → NsO oL mG → U = pre ++ us →
      (∀ s'', Fm w (Bg Lg E S s''.heap) Lg [] s'' mG noC [(E, oE), (S, oS)] s'' → gs.Goes (M w) A.in1 (RG w Lg E S) (YG w Lg E S U) us.length (.send .none) s'') → GenSt w A us I g [(I, oI), (Lg, oL), (E, oE), (S, oS)] gs
section
variable {w : World} {B : Heap} {L I : Addr} {m : PySem.Str → Option Value} {cm : PySem.Str → Option Value} {own rest : List (Addr × Obj)} {s₀ s : Shared} {A : Around} {E : Value → Shared → Prop} {g n : Nat} {gs : GenState} {us : List (Nat × PySem.Str)} {Q : Option Value → Shared → Prop}
noncomputable def GenQ (w : World) (B : Heap) (L : Addr) (m : PySem.Str → Option Value) (cm : PySem.Str → Option Value) (rest : List (Addr × Obj)) (s₀ : Shared) (A : Around) (I : Addr) (g : Nat) (Q : Option Value → Shared → Prop) : List (Nat × PySem.Str) → Prop
  | [] => ∀ s', Fm w B L [] s₀ m cm rest s' → Q none s'
  | (a, b) :: us' => ∀ T t1 t2 own' gs' s', GenSt w A us' I g own' gs' → Fm w B L [] s₀ m cm ((T, tupO [.int (a : Nat) t1, .str b t2]) :: own' ++ rest) s' → s'.gens[g]? = some gs' → Q (some (.ref T)) s'
variable {Lg e S : Addr} {oI oL : Obj} {mG : PySem.Str → Option Value} {U pre : List (Nat × PySem.Str)} {own0 : List (Addr × Obj)}
theorem yield_done {v : Value} {s₁ : Shared} {gs' : GenState} (F : Fm w B L [] s₀ m cm ((Lg, oL) :: own0 ++ ((I, oI) :: rest)) (s.setGen g .running)) (hI : GenO oI g) (hg : s.gens[g]? = some gs) (hs₀ : s₀.gens.size ≤ g) (hE : B.get? e = none) (hS : B.get? S = none) (hEL : e ≠ L) (hSL : S ≠ L)
    (hr : ∀ p ∈ (I, oI) :: rest, p.1 ≠ e ∧ p.1 ≠ S) (hU : U = pre ++ us) (hb : gs'.bare = true)
    (hY : YG w Lg e S U (us.length - 1) (s.setGen g .running) v s₁ (fun r' s'' => match us.length with | 0 => False | k + 1 => gs'.Goes (M w) A.in1 (RG w Lg e S) (YG w Lg e S U) k r' s''))
    (q : GenQ w B L m cm rest s₀ A I g Q us) : Q (some v) (s₁.setGen g gs') := by
  (refine x8_4 (hY) ?_; try clear hY; intro mG' oE oS qT a b t1 t2 hget eqX9 G hk; subst eqX9)
  (refine x1_2 (Fm.fromGen F G (.refl _) hr hE hS hEL hSL) ?_; intro oL' hN' F₁)
  have hrun : s₁.gens[g]? = some .running := G.rl.gens _ _ (setGen_self hg)
  have F₂ := Fm.gset F₁ hs₀ hb
  have hg' := setGen_self (x := gs') hrun
  have hndG := G.nd
  simp only [List.map_cons, List.nodup_cons, List.mem_cons, not_or, List.map_nil, List.not_mem_nil, not_false_eq_true, and_true, List.nodup_nil] at hndG
  subst hU
  cases us with
  | nil =>
    refine (hk s₁ (Fm.toGen (oL := oL') F₁ (.head _) hN' hE hS (fun p hp => ?_) ?_)).elim
    · simp only [List.mem_cons, List.not_mem_nil, or_false] at hp
      rcases hp with rfl | rfl
      · exact ⟨by simp, .inl rfl, (G.nw (e, oE) (by simp)).2.1⟩
      · exact ⟨by simp, .inr rfl, (G.nw (S, oS) (by simp)).2.1⟩
    · simp only [List.map_cons, List.map_nil, List.nodup_cons, List.mem_cons, List.not_mem_nil, or_false, not_false_eq_true, and_true, List.nodup_nil]
      exact hndG.2
  | cons y us' =>
    obtain ⟨a', b'⟩ := y
    have := U_get (U := pre ++ (a', b') :: us') (pre := pre) (y := (a', b')) (r := us') rfl
    simp only [List.length_cons, Nat.add_sub_cancel] at hget hk
    rw [this] at hget
    cases hget
    refine q qT t1 t2 _ _ _ (GenSt.susp (oE := oE) (oS := oS) (pre := pre ++ [(a, b)]) hI hN' (by simp) hk) (F₂.perm ?_) hg'
    simp only [List.cons_append, List.nil_append]; ktn_no "perm_tac"
theorem end_done {s₁ : Shared} {h' : Heap} (F : Fm w B L [] s₀ m cm ((Lg, oL) :: own0 ++ ((I, oI) :: rest)) (s.setGen g .running)) (hs₀ : s₀.gens.size ≤ g) (hE : B.get? e = none) (hS : B.get? S = none) (hEL : e ≠ L) (hSL : S ≠ L)
    (hr : ∀ p ∈ (I, oI) :: rest, p.1 ≠ e ∧ p.1 ≠ S) {n : Nat} (hP : PG w Lg e S n (s.setGen g .running) s₁) (hk : ∀ b o, s₁.heap.get? b = some o → h'.get? b = some o) :
    Fm w B L [] s₀ m cm rest { s₁.setGen g .finished with heap := h' } := by
  (refine y3_1 (hP) ?_; try clear hP; intro _ mG' oE oS G)
  (refine x1_2 (Fm.fromGen F G (.refl _) hr hE hS hEL hSL) ?_; intro oL' hN' F₁)
  have F₂ := Fm.gset F₁ hs₀ (x := .finished) rfl
  exact (Fm.keepAll (d := s₁.drawn) (tk := s₁.toks) F₂ hk).drop 4
theorem gen_next (R : Room (n + 1) A) (F : Fm w B L [] s₀ m cm (own ++ rest) s) (hst : GenSt w A us I g own gs) (hg : s.gens[g]? = some gs) (hs₀ : s₀.gens.size ≤ g)
    (q : GenQ w B L m cm rest s₀ A I g Q us) : wpAny (M w) A (pyNext (.ref I)) Q E s := by
  have hA : ∀ c k c' p, (A.in1.over c [.ret k none false [] c' p []]).handled = none := fun c k c' p => by
    show (marksOver [.ret k none false [] c' p []] (A.handled, A.handled)).1 = none
    rw [R.handled]; rfl
  have Fr := F.gset hs₀ (x := .running) rfl
  cases hst with
  | @fresh x tx I Lg g oI oL mG hI hN hm ha =>
    have hI' := hI
    (refine x2_3 (hI') ?_; try clear hI'; intro nm qn c1 c2 c3)
    (refine x0_4 (Fm.fresh (a := s.heap.objs.size + 1) F (Nat.le_succ _)) ?_; intro e1 e2 e3 e4)
    (refine x0_4 (Fm.fresh (a := s.heap.objs.size) F (Nat.le_refl _)) ?_; intro f1 f2 f3 f4)
    have Ft : Fm w (Bg Lg (s.heap.objs.size + 1) s.heap.objs.size (s.setGen g .running).heap) Lg [] (s.setGen g .running) mG noC [] (s.setGen g .running) := Fr.toGen (.tail _ (.head _)) hN e2 f2 (fun p hp => by cases hp) List.nodup_nil
    have Fr' := Fr.perm (news' := (Lg, oL) :: [] ++ ((I, oI) :: rest)) (by simp only [List.cons_append, List.nil_append]; ktn_no "perm_tac")
    have hr : ∀ p ∈ (I, oI) :: rest, p.1 ≠ s.heap.objs.size + 1 ∧ p.1 ≠ s.heap.objs.size := fun p hp => by
      have hp' : p ∈ [(I, oI), (Lg, oL)] ++ rest := by
        rcases List.mem_cons.mp hp with rfl | hp
        · exact .head _
        · simp [hp]
      have := Heap.lt_size (F.nw p hp').1
      exact ⟨Nat.ne_of_lt (Nat.lt_succ_of_lt this), Nat.ne_of_lt this⟩
    refine genNext (Y := YG w Lg (s.heap.objs.size + 1) s.heap.objs.size (units x)) (P := PG w Lg (s.heap.objs.size + 1) s.heap.objs.size) (n := (units x).length) R.handled (F.wf.nl.keeps F.keep) R.lt ⟨oI, nm, qn, F.at 0 rfl, c1, c2, c3⟩ hg ⟨rfl, seg_start hA ha hm rfl rfl Ft⟩ ?_ ?_
    · intro v s₁ gs' hb hY
      exact yield_done (pre := []) Fr' hI hg hs₀ e2 f2 e1 f1 hr rfl hb hY q
    · intro s₁ hP h' hk
      have hz : units x = [] := List.length_eq_zero_iff.mp hP.1
      generalize units x = us at q hz
      subst hz
      exact q _ (end_done Fr' hs₀ e2 f2 e1 f1 hr hP hk)
  | @susp us U pre I Lg e S g oI oL oE oS mG gs hI hN hU hgo =>
    have hI' := hI
    (refine x2_3 (hI') ?_; try clear hI'; intro nm qn c1 c2 c3)
    (refine x0_4 (F.nw (e, oE) (by simp)) ?_; intro _ e1 e2 e3)
    (refine x0_4 (F.nw (S, oS) (by simp)) ?_; intro _ f1 f2 f3)
    have hnd := F.nd
    simp only [List.cons_append, List.nil_append, List.map_cons, List.nodup_cons, List.mem_cons, not_or] at hnd
    have Ft : Fm w (Bg Lg e S (s.setGen g .running).heap) Lg [] (s.setGen g .running) mG noC [(e, oE), (S, oS)] (s.setGen g .running) := Fr.toGen (.tail _ (.head _)) hN e2 f2 (fun p hp => ?_) ?_
    have Fr' := Fr.perm (news' := (Lg, oL) :: [(e, oE), (S, oS)] ++ ((I, oI) :: rest)) (by simp only [List.cons_append, List.nil_append]; ktn_no "perm_tac")
    have hr : ∀ p ∈ (I, oI) :: rest, p.1 ≠ e ∧ p.1 ≠ S := fun p hp => by
      rcases List.mem_cons.mp hp with rfl | hp
      · exact ⟨hnd.1.2.1, hnd.1.2.2.1⟩
      · exact ⟨fun z => hnd.2.2.1.2 (List.mem_map.mpr ⟨p, hp, z⟩), fun z => hnd.2.2.2.1 (List.mem_map.mpr ⟨p, hp, z⟩)⟩
    refine genNext (Y := YG w Lg e S U) (P := PG w Lg e S) (n := us.length) R.handled (F.wf.nl.keeps F.keep) R.lt ⟨oI, nm, qn, F.at 0 rfl, c1, c2, c3⟩ hg (hgo _ Ft) ?_ ?_
    · intro v s₁ gs' hb hY
      exact yield_done Fr' hI hg hs₀ e2 f2 e1 f1 hr hU hb hY q
    · intro s₁ hP h' hk
      have hz : us = [] := List.length_eq_zero_iff.mp hP.1
      subst hz
      exact q _ (end_done Fr' hs₀ e2 f2 e1 f1 hr hP hk)
    · simp only [List.mem_cons, List.not_mem_nil, or_false] at hp
      rcases hp with rfl | rfl
      · exact ⟨by simp, .inl rfl, fun z => hnd.2.1.1 z.symm⟩
      · exact ⟨by simp, .inr rfl, fun z => hnd.2.1.2.1 z.symm⟩
    · simp only [List.map_cons, List.map_nil, List.nodup_cons, List.mem_cons, List.not_mem_nil, or_false, not_false_eq_true, and_true, List.nodup_nil]
      exact hnd.2.2.1.1
end
theorem Rel.gsize {s₀ s : Shared} (r : Rel s₀ s) : s₀.gens.size ≤ s.gens.size := by
  rcases Nat.lt_or_ge s.gens.size s₀.gens.size with z | z
  · have := r.gens s.gens.size _ (Array.getElem?_eq_getElem z)
    rw [Array.getElem?_eq_none (Nat.le_refl _)] at this; cases this
  · exact z
section
variable {w : World} {B : Heap} {L : Addr} {m : PySem.Str → Option Value} {cl : List (PySem.Str × Addr)} {cm : PySem.Str → Option Value} {rest : List (Addr × Obj)} {s₀ s : Shared} {A : Around} {E : Value → Shared → Prop} {n : Nat} {Q : Value → Shared → Prop} {x : PySem.Str} {tx : Tok} {h : Heap} {g : Array GenState} {d d₀ : Drawn} {tk tk₀ : Nat} {os : OsState}
theorem Fm.gpush (F : Fm w B L cl s₀ m cm rest ⟨h, g, d₀, tk₀, os⟩) {y : GenState} (hy : y.bare = true) : Fm w B L cl s₀ m cm rest ⟨h, g.push y, d, tk, os⟩ :=
  { F with rl := ⟨F.rl.os, fun k z e => by
      have := F.rl.gens k z e
      have hk : k < g.size := (Array.getElem?_eq_some_iff.mp this).1
      show (g.push y)[k]? = some z
      rw [Array.getElem?_push, if_neg (by ktn_no "om")]; exact this, fun hb z hz => by
      rcases Array.mem_push.mp hz with hz | rfl
      · exact F.rl.bare hb z hz
      · exact hy, F.rl.tg, trivial⟩ }
theorem gen_call (A' : Around) (R : Room (n + 2) A) (F : Fm w B L [] s₀ m cm rest s) (ha : x.cps.all (· < 128) = true)
    (q : ∀ I own gs s', GenSt w A' (units x) I s.gens.size own gs → Fm w B L [] s₀ m cm (own ++ rest) s' → s'.gens[s.gens.size]? = some gs → Q (.ref I) s') : wpAny (M w) A (call (.ref a_iter_escaped_chars) [.str x tx]) Q E s := by
  obtain ⟨h, g, d, tk, os⟩ := s
  have X := F.K
  refine wpAny_call (codeAny_call_generator (fd := fd_iter_escaped_chars) (body := body_iter_escaped_chars) R.lt (X _ _ (lk_iter_escaped_chars _)) rfl rfl rfl rfl (codeRec_of X (cd_iter_escaped_chars _)) ?_)
  refine BindsTo.of_eq (binds := [("addr", Value.str x tx)]) rfl _ _ _ _ ?_
  refine wpAny_newFunctionEnv (by decide) (locs (by kernel_rfl)) (fun h' hn hs => ?_) rfl
  have hk : ∀ b o, h.get? b = some o → h'.get? b = some o := fun b o e => (hs.2 b (fun q => absurd (Heap.lt_size e) (by rw [q]; exact Nat.lt_irrefl _))).trans (Heap.get?_push_of_some _ e)
  have F₁ := Fm.keepAll (d := d) (tk := tk + 1) F hk
  (refine x1_2 (ns_of hn) ?_; intro oL hL hN)
  (refine x0_4 (Fm.fresh (a := h.objs.size) F (Nat.le_refl _)) ?_; intro a1 a2 a3 a4)
  have F₂ := Fm.add F₁ hL a1 a2 a3 a4
  have F₃ := F₂.push1 (g := g) (d := d) (tk := tk + 1 + 1 + 1) ⟨.type "generator", none, .fields #[.int g.size 0, .str fd_iter_escaped_chars.name (tk + 1), .str fd_iter_escaped_chars.qualname (tk + 1 + 1)], #[]⟩
  have F₄ := Fm.gpush (d := d) (tk := tk + 1 + 1 + 1) F₃ (y := .fresh (.func body_iter_escaped_chars (gEnv h.objs.size))) rfl
  refine ⟨(F.wf.nl.keeps F.keep).keeps hk, ?_⟩
  refine q h'.objs.size [(h'.objs.size, ⟨.type "generator", none, .fields #[.int g.size 0, .str fd_iter_escaped_chars.name (tk + 1), .str fd_iter_escaped_chars.qualname (tk + 1 + 1)], #[]⟩), (h.objs.size, oL)] _ _ (GenSt.fresh (tx := tx) ⟨_, _, rfl, rfl, rfl⟩ hN (by kernel_rfl) ha) F₄ ?_
  show (g.push _)[g.size]? = _
  rw [Array.getElem?_push_size]; rfl
end
noncomputable abbrev Q1 : PySem.Str := Str.ofString "\""
noncomputable abbrev SSt : Type := Nat × Option Nat × List PySem.Str
noncomputable def stripStep (x : PySem.Str) (st : SSt) (u : Nat × PySem.Str) : SSt :=
  if u.2 == Q1 then match st.2.1 with
    | none => (st.1, some u.1, st.2.2)
    | some o => (u.1 + 1, none, if st.1 = o then st.2.2 else st.2.2 ++ [Txt.slice x (some st.1) (some o)])
  else st
noncomputable def stripEnd (x : PySem.Str) (st : SSt) : List PySem.Str := if st.1 < x.length then st.2.2 ++ [Txt.slice x (some st.1) none] else st.2.2
noncomputable def stripF (x : PySem.Str) : PySem.Str :=
  if (Builtin.Str.occurrences x Q1 0 x.length 1).isEmpty then x else Txt.join ⟨#[]⟩ (stripEnd x ((units x).foldl (stripStep x) (0, none, [])))
noncomputable def opV (t : Tok) : Option Nat → Value
  | none => .none
  | some o => .int (o : Nat) t
section
variable {w : World} {B : Heap} {L I : Addr} {m : PySem.Str → Option Value} {cm : PySem.Str → Option Value} {own rest : List (Addr × Obj)} {s₀ s : Shared} {A : Around} {E : Value → Shared → Prop} {n : Nat} {x : PySem.Str} {tx : Tok} {lr : Addr} {Q : Flow → Shared → Prop} {g : Nat}
noncomputable abbrev stripFor : Stmt := body_strip_quoted_realnames.getD 4 default
noncomputable abbrev stT : Expr := (forParts stripFor).1
noncomputable abbrev stB : List Stmt := (forParts stripFor).2.2.1
theorem gen_go {us : List (Nat × PySem.Str)} {gs : GenState} {elts : List Expr} {k : Nat} {pos : Pos} {T : Addr} {oT : Obj} {Q : Unit → Shared → Prop} (hst : GenSt w A us I g own gs) (F : Fm w B L [] s₀ m cm ((T, oT) :: own ++ rest) s) (q : Q () s) :
    wpAny (M w) A (letOwnedTupleGo (.Tuple elts k pos) (.ref I) (.ref T)) Q E s := by
  have fin : ∀ oI, GenO oI g → s.heap.get? I = some oI → wpAny (M w) A (letOwnedTupleGo (.Tuple elts k pos) (.ref I) (.ref T)) Q E s := fun oI ⟨nm, qn, c1, c2, c3⟩ e => by
    unfold letOwnedTupleGo
    refine wpAny_bind (wpAny_load e ?_)
    rw [c1, c2]
    dsimp only
    rw [if_neg (by simp)]
    exact wpAny_pure q
  cases hst with
  | fresh hI _ _ _ => exact fin _ hI (F.at 1 rfl)
  | susp hI _ _ _ => exact fin _ hI (F.at 1 rfl)
theorem strip_loop (R : Room (n + 10) A) (hlx : x.length ≤ 100000) :
    ∀ (us : List (Nat × PySem.Str)) (st : SSt) (m : PySem.Str → Option Value) (own : List (Addr × Obj)) (gs : GenState) (s : Shared) (nl : Nat) (l : List (PySem.Str × Tok)) (t1 t2 : Tok),
      GenSt w A us I g own gs → s.gens[g]? = some gs → s₀.gens.size ≤ g → Fm w B L [] s₀ m cm (own ++ ((lr, lsO (strValues l) nl) :: rest)) s → l.map (·.1) = st.2.2 → m "addr" = some (.str x tx) → m "result" = some (.ref lr) → m "start" = some (.int (st.1 : Nat) t1) → m "open_pos" = some (opV t2 st.2.1) → st.2.2.length + us.length ≤ 100000 →
      (∀ m' nl' l' t1' s', Fm w B L [] s₀ m' cm ((lr, lsO (strValues l') nl') :: rest) s' → l'.map (·.1) = (us.foldl (stripStep x) st).2.2 → m' "addr" = some (.str x tx) → m' "result" = some (.ref lr) → m' "start" = some (.int ((us.foldl (stripStep x) st).1 : Nat) t1') → Q .next s') →
      LoopC w A stT (.ref I) stB [] (callEnv fd_strip_quoted_realnames L a_strip_quoted_realnames) Q s
  | [], st, m, own, gs, s, nl, l, t1, t2, hst, hg, hs, F, hl, ha, hr, hs1, ho, hle, hq => by
    refine loop_step ?_
    refine gen_next (n := n) (R.less (by ktn_no "le")) F hst hg hs fun s' F' => ?_
    dsimp only
    exact wpAny_execs_nil (hq _ _ _ _ _ F' hl ha hr hs1)
  | (a, b) :: us, st, m, own, gs, s, nl, l, t1, t2, hst, hg, hs, F, hl, ha, hr, hs1, ho, hle, hq => by
    refine loop_step ?_
    refine gen_next (n := n) (R.less (by ktn_no "le")) F hst hg hs fun T u1 u2 own' gs' s' hst' F' hg' => ?_
    dsimp only
    refine gen_go hst' F' ?_
    obtain ⟨h₂, g₂, d₂, k₂, o₂⟩ := s'
    refine assign_pair F' R.handled (F'.at 0 rfl) rfl (by kernel_rfl) (by kernel_rfl) (by kernel_rfl) fun h₃ k₃ F₃ => ?_
    have F₄ := F₃.drop 1
    simp only [List.cons_append, List.drop] at F₄
    clear F F' F₃
    have eB : stB = stB := rfl
    ktn_no "ast"
    ktn_no "x"
    refine eq_str ?_
    ktn_no "x"
    simp only [List.foldl_cons] at hq
    cases hb : b == Q1 with
    | false =>
      have e : stripStep x st (a, b) = st := by simp only [stripStep, hb]; rfl
      rw [e] at hq
      rw [if_neg (by decide)]
      ktn_no "x"
      exact strip_loop R hlx us st _ _ _ _ _ l t1 t2 hst' hg' hs (F₄.toks _) hl (by ktn_no "k_val") (by ktn_no "k_val") (by ktn_no "k_val") (by ktn_no "k_val") (by simp at hle ⊢; (first | lia | omega)) hq
    | true =>
      rw [if_pos rfl]
      obtain ⟨st1, st2, st3⟩ := st
      cases st2 with
      | none =>
        have e : stripStep x (st1, none, st3) (a, b) = (st1, some a, st3) := by simp only [stripStep, hb]; rfl
        rw [e] at hq
        simp only [opV] at ho
        ktn_no "x"
        rw [if_pos (by decide)]
        ktn_no "x"
        rename_i h₅ F₅
        exact strip_loop R hlx us (st1, some a, st3) _ _ _ _ _ l t1 u1 hst' hg' hs F₅ hl (by ktn_no "k_val") (by ktn_no "k_val") (by ktn_no "k_val") (by ktn_no "k_val") (by simp at hle ⊢; (first | lia | omega)) hq
      | some o =>
        have e : stripStep x (st1, some o, st3) (a, b) = (a + 1, none, if st1 = o then st3 else st3 ++ [Txt.slice x (some st1) (some o)]) := by simp only [stripStep, hb]; rfl
        rw [e] at hq
        simp only [opV] at ho
        ktn_no "x"
        rw [if_neg (by simp)]
        ktn_no "x"
        refine ne_int ?_
        ktn_no "x"
        by_cases h1 : st1 = o
        · subst h1
          rw [if_neg (by simp)]
          rw [if_pos rfl] at hq
          ktn_no "x"
          rename_i h₅ F₅ h₆ F₆
          exact strip_loop R hlx us (a + 1, none, st3) _ _ _ _ _ l _ 0 hst' hg' hs F₆ hl (by ktn_no "k_val") (by ktn_no "k_val") (by ktn_no "k_val") (by ktn_no "k_val") (by simp at hle ⊢; (first | lia | omega)) hq
        · rw [if_pos (by rw [bne_iff_ne]; intro z; (first | lia | omega))]
          rw [if_neg h1] at hq
          ktn_no "x"
          have G₁ := F₄.perm (news' := (lr, lsO (strValues l) nl) :: (own' ++ rest)) (by ktn_no "perm_tac")
          refine Calls.getMethod_list_append (G₁.at 0 rfl) rfl rfl ?_
          ktn_no "x"
          refine wpAny_Subscript_str_slice ?_ (fun _ _ => rfl)
          ktn_no "x"
          refine evalPart_some_step ?_
          ktn_no "x"
          refine evalPart_some_step ?_
          ktn_no "x"
          refine ⟨x, tx, some ((st1 : Nat), t1), some ((o : Nat), t2), rfl, rfl, rfl, post_val_or_str ⟨Nat.le_trans (Txt.slice_le x (some (st1 : Nat)) (some (o : Nat))) (Nat.le_trans hlx (by decide)), fun t' k' => ?_⟩⟩
          dsimp only
          have G₂ := G₁.push1 (g := g₂) (d := d₂) (tk := k') (slO (.int (st1 : Nat) t1) (.int (o : Nat) t2) .none)
          ktn_no "x"
          have hll : l.length = st3.length := by have := congrArg List.length hl; simpa using this
          refine append_at (G₂.at 1 rfl) (fun h₇ hs₇ hx₇ => ?_) (Nat.le_trans (by simp [strValues] at hle ⊢; (first | lia | omega)) (show (100000 : Nat) ≤ sizeLine by decide))
          have e5 : (strValues l).toArray.push (.str (Txt.slice x (some (st1 : Nat)) (some (o : Nat))) t') = (strValues (l ++ [(Txt.slice x (some (st1 : Nat)) (some (o : Nat)), t')])).toArray := by simp [strValues]
          have F₇ := G₂.set1 (i := 1) (g := g₂) (d := d₂) (tk := k') (o' := ⟨.type "list", none, .seq (strValues (l ++ [(Txt.slice x (some (st1 : Nat)) (some (o : Nat)), t')])).toArray (nl + 1), #[]⟩) rfl hs₇ (by rw [← e5]; exact hx₇)
          have F₈ := (F₇.drop 1).perm (news' := own' ++ (lr, ⟨.type "list", none, .seq (strValues (l ++ [(Txt.slice x (some (st1 : Nat)) (some (o : Nat)), t')])).toArray (nl + 1), #[]⟩) :: rest) (by simp only [List.set, List.drop]; ktn_no "perm_tac")
          clear F₄ G₁ G₂ F₇
          ktn_no "x"
          rename_i h₉ F₉ h₁₀ F₁₀
          exact strip_loop R hlx us (a + 1, none, st3 ++ [Txt.slice x (some (st1 : Nat)) (some (o : Nat))]) _ _ _ _ _ (l ++ [(Txt.slice x (some (st1 : Nat)) (some (o : Nat)), t')]) _ 0 hst' hg' hs F₁₀ (by simp [hl]) (by ktn_no "k_val") (by ktn_no "k_val") (by ktn_no "k_val") (by ktn_no "k_val") (by simp at hle ⊢; (first | lia | omega)) hq
end
/-- what the strip wants of a text -/
noncomputable def StripOk (x : PySem.Str) : Prop := x.cps.all (· < 128) = true ∧ x.length ≤ 10000 ∧ JoinOk (⟨#[]⟩ : PySem.Str) (stripEnd x ((units x).foldl (stripStep x) (0, none, []))) = true
theorem esc_len : ∀ (l : List Nat) (p : Nat) (e : Bool) (last : Nat), (esc l p e last).length ≤ l.length + 1
  | [], p, e, last => by unfold esc; split <;> simp
  | c :: r, p, e, last => by
    unfold esc
    split
    · have := esc_len r (p + 1) false p; simp; (first | lia | omega)
    · split
      · have := esc_len r (p + 1) true p; simp; (first | lia | omega)
      · have := esc_len r (p + 1) false p; simp; (first | lia | omega)
theorem strip_len (x : PySem.Str) : ∀ (us : List (Nat × PySem.Str)) (st : SSt), (us.foldl (stripStep x) st).2.2.length ≤ st.2.2.length + us.length
  | [], st => by simp
  | u :: us, st => by
    have := strip_len x us (stripStep x st u)
    have h2 : (stripStep x st u).2.2.length ≤ st.2.2.length + 1 := by
      unfold stripStep
      split
      · split
        · simp
        · simp only []; split <;> simp
      · (first | lia | omega)
    simp only [List.foldl_cons, List.length_cons]; (first | lia | omega)
section
variable {w : World} {B : Heap} {L I : Addr} {m : PySem.Str → Option Value} {cl : List (PySem.Str × Addr)} {cm : PySem.Str → Option Value} {own rest : List (Addr × Obj)} {s₀ s : Shared} {A : Around} {E : Value → Shared → Prop} {n : Nat} {x : PySem.Str} {tx : Tok} {lr : Addr} {Q : Value → Shared → Prop} {g : Nat}
theorem gen_iter {us : List (Nat × PySem.Str)} {gs : GenState} (hst : GenSt w A us I g own gs) (F : Fm w B L cl s₀ m cm (own ++ rest) s) {A₂ : Around} (q : Q (.ref I) s) : wpAny (M w) A₂ (pyIter (.ref I)) Q E s := by
  cases hst with
  | fresh hI _ _ _ => obtain ⟨nm, qn, c⟩ := hI; exact wpAny_pyIter_gen ⟨_, nm, qn, F.at 0 rfl, c⟩ q
  | susp hI _ _ _ => obtain ⟨nm, qn, c⟩ := hI; exact wpAny_pyIter_gen ⟨_, nm, qn, F.at 0 rfl, c⟩ q
theorem strip_spec (R : Room (n + 20) A) (F : Fm w B L cl s₀ m cm rest s) (hx : StripOk x)
    (h : ∀ t s', Fm w B L cl s₀ m cm rest s' → Q (.str (stripF x) t) s') :
   wpAny (M w) A (call (.ref a_strip_quoted_realnames) [.str x tx] []) Q E s := by
  (refine x0_3 (hx) ?_; try clear hx; intro ha hlx hj)
  refine call_fn (binds := [("addr", .str x tx)]) (fd := fd_strip_quoted_realnames) (cmF := fun _ => none) R F (lk_strip_quoted_realnames _) (cd_strip_quoted_realnames _) rfl (BindsTo.of_eq rfl) (by decide) (by kernel_rfl) (fun _ _ e => (by cases e)) (fun _ _ _ e => (by cases e)) ?_ rfl rfl rfl
  intro Qo hQo L' s₁ hL F₁ R₁
  obtain ⟨h₁, g₁, d₁, k₁, o₁⟩ := s₁
  ktn_no "ast"
  ktn_no "x"
  refine notIn_str ?_
  ktn_no "x"
  cases hoc : (Builtin.Str.occurrences x Q1 0 x.length 1).isEmpty with
  | true =>
    rw [if_pos (by decide)]
    ktn_no "x"
    refine hQo _ _ <| Back.of (F₁.toks _) fun G => ?_
    have e : stripF x = x := by unfold stripF; rw [if_pos hoc]
    have := h tx _ G
    rw [e] at this
    exact this
  | false =>
    have e : stripF x = Txt.join ⟨#[]⟩ (stripEnd x ((units x).foldl (stripStep x) (0, none, []))) := by unfold stripF; rw [hoc]; rfl
    rw [e] at h
    rw [if_neg (by decide)]
    ktn_no "x"
    rename_i h₂ F₂ h₃ F₃
    refine st_newList (by simp) ?_
    have F₄ := F₃.push1 (g := g₁) (d := d₁) (tk := k₁ + 1 + 1) (lsO [] 0)
    refine st_L F₄ (by kernel_rfl) (by kernel_rfl!) (by kernel_rfl) fun h₅ F₅ => ?_
    clear F₁ F₂ F₃ F₄
    refine wpAny_execs_cons (wFor ?_ (fun x => rfl))
    ktn_no "x"
    refine gen_call (n := n + 10) (A.deeper (callEnv fd_strip_quoted_realnames L' a_strip_quoted_realnames)) (R₁.less (by ktn_no "le")) (F₅.toks _) ha fun I own gs s' hst F₆ hg => ?_
    obtain ⟨h₆, g₆, d₆, k₆, o₆⟩ := s'
    refine gen_iter hst F₆ ?_
    refine strip_loop (x := x) (tx := tx) (n := n + 5) (R₁.less (by ktn_no "le")) (by ktn_no "om") (units x) (0, none, []) _ _ _ _ _ [] _ 0 hst hg F₅.rl.gsize F₆ rfl (by ktn_no "k_val") (by ktn_no "k_val") (by ktn_no "k_val") (by ktn_no "k_val") (by have := esc_len x.cps.toList 0 false 0; have e2 : x.cps.toList.length = x.length := rfl; simp [units]; (first | lia | omega)) fun m' nl' l' t1' s' F₇ hl' hm1 hm2 hm3 => ?_
    obtain ⟨h₇, g₇, d₇, k₇, o₇⟩ := s'
    clear F₅ F₆
    ktn_no "x"
    refine SBL.len (by ktn_no "om") ?_
    ktn_no "x"
    generalize hst' : (units x).foldl (stripStep x) (0, none, []) = st at *
    have hll : l'.length = st.2.2.length := by have := congrArg List.length hl'; simpa using this
    have hlen : st.2.2.length ≤ 20000 := by
      have h1 := strip_len x (units x) (0, none, [])
      have h2 := esc_len x.cps.toList 0 false 0
      have h3 : x.cps.toList.length = x.length := rfl
      rw [hst'] at h1
      simp only [List.length_nil] at h1
      have h4 : (units x).length ≤ x.cps.toList.length + 1 := h2
      (first | lia | omega)
    by_cases hlt : st.1 < x.length
    · rw [if_pos (by simpa using hlt)]
      have ee : stripEnd x st = st.2.2 ++ [Txt.slice x (some st.1) none] := if_pos hlt
      rw [ee] at h hj
      ktn_no "x"
      refine Calls.getMethod_list_append (F₇.at 0 rfl) rfl rfl ?_
      ktn_no "x"
      refine wpAny_Subscript_str_slice ?_ (fun _ _ => rfl)
      ktn_no "x"
      refine evalPart_some_step ?_
      ktn_no "x"
      refine evalPart_none_step ?_
      refine ⟨x, tx, some ((st.1 : Nat), t1'), none, rfl, rfl, rfl, post_val_or_str ⟨Nat.le_trans (Txt.slice_le x (some (st.1 : Nat)) none) (Nat.le_trans hlx (by decide)), fun t' k' => ?_⟩⟩
      dsimp only
      have G₂ := F₇.push1 (g := g₇) (d := d₇) (tk := k') (slO (.int (st.1 : Nat) t1') .none .none)
      ktn_no "x"
      refine append_at (G₂.at 1 rfl) (fun h₈ hs₈ hx₈ => ?_) (Nat.le_trans (by simp [strValues]; (first | lia | omega)) (show (100000 : Nat) ≤ sizeLine by decide))
      have e5 : (strValues l').toArray.push (.str (Txt.slice x (some (st.1 : Nat)) none) t') = (strValues (l' ++ [(Txt.slice x (some (st.1 : Nat)) none, t')])).toArray := by simp [strValues]
      have F₈ := G₂.set1 (i := 1) (g := g₇) (d := d₇) (tk := k') (o' := ⟨.type "list", none, .seq (strValues (l' ++ [(Txt.slice x (some (st.1 : Nat)) none, t')])).toArray (nl' + 1), #[]⟩) rfl hs₈ (by rw [← e5]; exact hx₈)
      dsimp only [List.set] at F₈
      ktn_no "x"
      refine GM.join ?_
      ktn_no "x"
      refine join_tup (F₈.at 1 rfl) (.inl rfl) rfl (by simpa [hl', e_empty] using hj) fun t' k' => ?_
      refine hQo _ _ <| Back.of ((F₈.drop 2).toks _) fun G => ?_
      rw [e_empty]
      simpa [hl', retV] using h _ _ G
    · rw [if_neg (by simpa using hlt)]
      have ee : stripEnd x st = st.2.2 := if_neg hlt
      rw [ee] at h hj
      ktn_no "x"
      refine GM.join ?_
      ktn_no "x"
      refine join_tup (F₇.at 0 rfl) (.inl rfl) rfl (by simpa [hl', e_empty] using hj) fun t' k' => ?_
      refine hQo _ _ <| Back.of ((F₇.drop 1).toks _) fun G => ?_
      rw [e_empty]
      simpa [hl', retV] using h _ _ G
end
section
variable {w : World} {B : Heap} {L : Addr} {m : PySem.Str → Option Value} {cl : List (PySem.Str × Addr)} {cm : PySem.Str → Option Value} {news : List (Addr × Obj)} {s₀ : Shared} {A : Around} {E : Value → Shared → Prop}
  {h : Heap} {g g₀ : Array GenState} {d d₀ : Drawn} {tk tk₀ : Nat} {os os₀ : OsState} {env : Env} {x : PySem.Str} {v : Value}
theorem ln_L {Q : Value → Shared → Prop} (F : Fm w B L cl s₀ m cm news ⟨h, g₀, d₀, tk₀, os₀⟩) (hk : env.scope.kind = .function) (hx : env.kindOf x = some .local) (hL : env.locals = L) (hv : m x = some v) (q : Q v ⟨h, g, d, tk, os⟩) :
    wpAny (M w) A (loadName env x) Q E ⟨h, g, d, tk, os⟩ := wpAny_loadName_local hk hx (by subst hL; exact F.ns) hv q
end
local macro_rules | `(tactic| ktn_no "y1") => `(tactic| first
  | ktn_no "x1"
  | (with_reducible refine ln_L (by assumption) (by kernel_rfl) (by kernel_rfl!) (by kernel_rfl) (by ktn_no "k_val") ?_)
  | (with_reducible refine iadd_int ?_)
  | (with_reducible refine isub_int ?_)
  | (with_reducible refine ne_int ?_)
  | (with_reducible refine le_int ?_)
  | (with_reducible refine eq_str ?_)
  | (with_reducible refine Subscript_ ?_))
local macro_rules | `(tactic| ktn_no "y") => `(tactic| repeat ktn_no "y1")
noncomputable abbrev cOp : PySem.Str := Str.ofString "("
noncomputable abbrev cCl : PySem.Str := Str.ofString ")"
noncomputable def checkGo : List (Nat × PySem.Str) → Int → Bool
  | [], o => o == 0
  | u :: us, o => if u.2 == cOp then checkGo us (o + 1) else if u.2 == cCl then (if o - 1 < 0 then false else checkGo us (o - 1)) else checkGo us o
noncomputable def checkF (x : PySem.Str) : Bool := checkGo (units (stripF x)) 0
section
variable {w : World} {B : Heap} {L I : Addr} {m : PySem.Str → Option Value} {cm : PySem.Str → Option Value} {own rest : List (Addr × Obj)} {s₀ s : Shared} {A : Around} {E : Value → Shared → Prop} {n : Nat} {x : PySem.Str} {tx : Tok} {Q : Flow → Shared → Prop} {g : Nat}
noncomputable abbrev ckFor : Stmt := body_check_parenthesis.getD 2 default
noncomputable abbrev ckT : Expr := (forParts ckFor).1
noncomputable abbrev ckB : List Stmt := (forParts ckFor).2.2.1
theorem check_loop (R : Room (n + 10) A) :
    ∀ (us : List (Nat × PySem.Str)) (op : Int) (m : PySem.Str → Option Value) (own : List (Addr × Obj)) (gs : GenState) (s : Shared) (t1 : Tok),
      GenSt w A us I g own gs → s.gens[g]? = some gs → s₀.gens.size ≤ g → Fm w B L [] s₀ m cm (own ++ rest) s → m "opens" = some (.int op t1) →
      (∀ m' t1' s' op', Fm w B L [] s₀ m' cm rest s' → m' "opens" = some (.int op' t1') → (op' == 0) = checkGo us op → Q .next s') →
      (∀ m' s', Fm w B L [] s₀ m' cm rest s' → checkGo us op = false → Q (.ret (.bool false)) s') →
      LoopC w A ckT (.ref I) ckB [] (callEnv fd_check_parenthesis L a_check_parenthesis) Q s
  | [], op, m, own, gs, s, t1, hst, hg, hs, F, ho, hq, hf => by
    refine loop_step ?_
    refine gen_next (n := n) (R.less (by ktn_no "le")) F hst hg hs fun s' F' => ?_
    dsimp only
    exact wpAny_execs_nil (hq _ _ _ _ F' ho rfl)
  | (a, b) :: us, op, m, own, gs, s, t1, hst, hg, hs, F, ho, hq, hf => by
    refine loop_step ?_
    refine gen_next (n := n) (R.less (by ktn_no "le")) F hst hg hs fun T u1 u2 own' gs' s' hst' F' hg' => ?_
    dsimp only
    refine gen_go hst' F' ?_
    obtain ⟨h₂, g₂, d₂, k₂, o₂⟩ := s'
    refine assign_pair F' R.handled (F'.at 0 rfl) rfl (by kernel_rfl) (by kernel_rfl) (by kernel_rfl) fun h₃ k₃ F₃ => ?_
    have F₄ := F₃.drop 1
    simp only [List.cons_append, List.drop] at F₄
    clear F F' F₃
    unfold checkGo at hq hf
    dsimp only at hq hf
    ktn_no "ast"
    ktn_no "x"
    refine eq_str ?_
    ktn_no "x"
    cases h1 : b == cOp with
    | true =>
      rw [h1] at hq hf
      simp only [if_true] at hq hf
      rw [if_pos rfl]
      ktn_no "y"
      rename_i h₅ F₅
      exact check_loop R us (op + 1) _ _ _ _ _ hst' hg' hs F₅ (by ktn_no "k_val") hq hf
    | false =>
      rw [h1] at hq hf
      simp only [Bool.false_eq_true, if_false] at hq hf
      rw [if_neg (by decide)]
      ktn_no "x"
      refine eq_str ?_
      ktn_no "x"
      cases h2 : b == cCl with
      | true =>
        rw [h2] at hq hf
        simp only [if_true] at hq hf
        rw [if_pos rfl]
        ktn_no "y"
        rename_i h₅ F₅
        by_cases h3 : op - 1 < 0
        · rw [if_pos (by simpa using h3)]
          simp only [h3, if_true] at hf
          ktn_no "x"
          exact hf _ _ ((F₅.sub (List.sublist_append_right _ _)).toks _) trivial
        · rw [if_neg (by simpa using h3)]
          simp only [h3, if_false] at hq hf
          ktn_no "x"
          exact check_loop R us (op - 1) _ _ _ _ _ hst' hg' hs (F₅.toks _) (by ktn_no "k_val") hq hf
      | false =>
        rw [h2] at hq hf
        simp only [Bool.false_eq_true, if_false] at hq hf
        rw [if_neg (by decide)]
        ktn_no "x"
        exact check_loop R us op _ _ _ _ t1 hst' hg' hs (F₄.toks _) (by ktn_no "k_val") hq hf
theorem check_spec {cl : List (PySem.Str × Addr)} {Q : Value → Shared → Prop} (R : Room (n + 24) A) (F : Fm w B L cl s₀ m cm rest s) (hx : StripOk x) (hx2 : (stripF x).cps.all (· < 128) = true)
    (h : ∀ s', Fm w B L cl s₀ m cm rest s' → Q (.bool (checkF x)) s') :
   wpAny (M w) A (call (.ref a_check_parenthesis) [.str x tx] []) Q E s := by
  refine call_fn (binds := [("addr", .str x tx)]) (fd := fd_check_parenthesis) (cmF := fun _ => none) R F (lk_check_parenthesis _) (cd_check_parenthesis _) rfl (BindsTo.of_eq rfl) (by decide) (by kernel_rfl) (fun _ _ e => (by cases e)) (fun _ _ _ e => (by cases e)) ?_ rfl rfl rfl
  intro Qo hQo L' s₁ hL F₁ R₁
  obtain ⟨h₁, g₁, d₁, k₁, o₁⟩ := s₁
  ktn_no "ast"
  ktn_no "y"
  refine strip_spec (n := n + 2) (R₁.less (by ktn_no "le")) F₁ hx fun t₂ s' F₂ => ?_
  obtain ⟨h₂, g₂, d₂, k₂, o₂⟩ := s'
  clear F₁
  ktn_no "y"
  rename_i h₃ F₃ h₄ F₄
  refine wFor ?_ (fun x => rfl)
  ktn_no "y"
  refine gen_call (n := n + 10) (A.deeper (callEnv fd_check_parenthesis L' a_check_parenthesis)) (R₁.less (by ktn_no "le")) (F₄.toks _) hx2 fun I own gs s' hst F₆ hg => ?_
  obtain ⟨h₆, g₆, d₆, k₆, o₆⟩ := s'
  refine gen_iter hst F₆ ?_
  refine check_loop (n := n + 5) (R₁.less (by ktn_no "le")) (units (stripF x)) 0 _ _ _ _ _ hst hg F₄.rl.gsize F₆ (by ktn_no "k_val") (fun m' t1' s' op' F₇ hm1 hop => ?_) (fun m' s' F₇ hop => ?_)
  · obtain ⟨h₇, g₇, d₇, k₇, o₇⟩ := s'
    clear F₂ F₃ F₄ F₆
    ktn_no "y"
    refine hQo _ _ <| Back.of (F₇.toks _) fun G => ?_
    have := h _ G
    unfold checkF at this
    rw [← hop] at this
    exact this
  · refine hQo _ _ <| Back.of F₇ fun G => ?_
    have := h _ G
    unfold checkF at this
    rw [hop] at this
    exact this
end
section
open PySem.Builtin.Re
noncomputable abbrev SM := PySem.Sre.M
theorem run_add (m : SM) : ∀ a b, m.runFor (a + b) = (m.runFor a).runFor b := by
  intro a
  induction a generalizing m with
  | zero => intro b; simp [Sre.M.runFor]
  | succ a ih =>
    intro b
    rw [show a + 1 + b = (a + b) + 1 by (first | lia | omega)]
    simp only [Sre.M.runFor]
    split
    · rename_i h
      cases b with
      | zero => simp [Sre.M.runFor]
      | succ b => simp [Sre.M.runFor, h]
    · exact ih _ _
theorem run_done {m : SM} (h : m.outcome.isSome = true) : ∀ n, m.runFor n = m
  | 0 => rfl
  | n + 1 => by simp [Sre.M.runFor, h]
noncomputable def Final (m : SM) (r : Option (Nat × Nat)) : Prop := match r with
  | some (a, b) => m.outcome = some .matched ∧ m.start = a ∧ m.handed = b
  | none => m.outcome = some .failed
theorem Final.some {m : SM} {r : Option (Nat × Nat)} (h : Final m r) : m.outcome.isSome = true := by
  cases r with
  | none => rw [show m.outcome = _ from h]; rfl
  | some p => rw [h.1]; rfl
noncomputable def Ends (m : SM) (n : Nat) (r : Option (Nat × Nat)) : Prop := Final (m.runFor n) r
theorem Ends.step {m : SM} {n : Nat} {r : Option (Nat × Nat)} (h : Ends m.step n r) (ho : m.outcome = none) : Ends m (n + 1) r := by
  unfold Ends at *
  simp only [Sre.M.runFor, ho]
  exact h
theorem Ends.mono {m : SM} {n k : Nat} {r : Option (Nat × Nat)} (h : Ends m n r) (hk : n ≤ k) : Ends m k r := by
  unfold Ends at *
  obtain ⟨j, rfl⟩ := Nat.le.dest hk
  rw [run_add, run_done h.some]
  exact h
section
variable {M : Model} {A : Around} {E : Value → Shared → Prop} {s : Shared}
theorem drive {r : Option (Nat × Nat)} {Q : SM → Shared → Prop} (hq : ∀ m', Final m' r → Q m' s) : ∀ (T : Nat) (m : SM) (n : Nat), Ends m n r → n ≤ 4 * T → 0 < T → wpAny M A (reDrive T m) Q E s
  | 0, _, _, _, _, h => absurd h (Nat.lt_irrefl _)
  | T + 1, m, n, h, hn, _ => by
    unfold reDrive
    rw [show reTurnSteps = 4 from rfl]
    dsimp only
    cases ho : (m.runFor 4).outcome.isSome with
    | true =>
      rw [if_pos rfl]
      refine wpAny_pure (hq _ ?_)
      have h2 : Ends m (4 + n) r := h.mono (by ktn_no "om")
      unfold Ends at h2
      rwa [run_add, run_done ho] at h2
    | false =>
      rw [if_neg (by decide)]
      have hn4 : 4 < n := by
        rcases Nat.lt_or_ge 4 n with z | z
        · exact z
        · have h2 : Ends m 4 r := h.mono z
          have := h2.some
          rw [ho] at this; cases this
      refine wpAny_bind (wpAny_rule ?_)
      refine drive hq T (m.runFor 4) (n - 4) ?_ (by ktn_no "om") (by ktn_no "om")
      unfold Ends at h ⊢
      rwa [← run_add, show 4 + (n - 4) = n by (first | lia | omega)]
theorem tagsLoop (m : SM) (l : List Nat) {Q : PUnit → Shared → Prop} (q : Q PUnit.unit s) : wpAny M A (forIn l PUnit.unit fun i _ => (if m.seen.has i = true then do
      rule (Sre.names.getD i "")
      pure (ForInStep.yield PUnit.unit)
    else pure (ForInStep.yield PUnit.unit) : Sem (ForInStep PUnit))) Q E s := by
  induction l with
  | nil => exact wpAny_pure q
  | cons i r ih =>
    simp only [List.forIn_cons]
    refine wpAny_bind ?_
    split
    · exact wpAny_bind (wpAny_rule (wpAny_pure ih))
    · exact wpAny_pure ih
theorem runEnd {m : SM} {n : Nat} {r : Option (Nat × Nat)} {Q : Option SM → Shared → Prop} (h : Ends m n r) (hn : n ≤ 2 ^ 64)
    (q : ∀ o : Option SM, (match r with | some (a, b) => ∃ m', o = some m' ∧ m'.start = a ∧ m'.handed = b | none => o = none) → Q o s) : wpAny M A (reRunToEnd m) Q E s := by
  unfold reRunToEnd
  refine wpAny_bind (drive (r := r) (fun m' hm => ?_) _ m n h (by ktn_no "om") (by ktn_no "om"))
  refine wpAny_bind (tagsLoop m' _ ?_)
  cases r with
  | none =>
    have : m'.outcome = _ := hm
    rw [this]
    exact wpAny_pure (q none rfl)
  | some p =>
    (refine x0_3 (hm) ?_; try clear hm; intro h1 h2 h3)
    rw [h1]
    exact wpAny_pure (q (some m') ⟨m', rfl, h2, h3⟩)
end

end
section
open PySem.Builtin.Re
noncomputable abbrev code1 : Array Nat := #[14, 4, 0, 1, 1, 6, 1, 16, 46, 1]
/-- the machine within an attempt at s -/
noncomputable def S1 (x : Array Nat) (s pc pos : Nat) (fo oo : Bool) (ho : Nat) (mu : Bool) (mk : Array (Option Nat)) (sn : Sre.Seen) (an : Option Bool) : SM :=
  { code := code1, text := x, lim := x.size, start := s, lastStart := x.size, mustAdvance := mu, pc, pos, handed := ho, outermost := oo, marks := mk, lastmark := -1, lastindex := -1, frames := [{ wait := .nextStart, pc := 5, pos := s, outermost := fo }], weight := 1, seen := sn, answer := an }
noncomputable def bol (x : Array Nat) (p : Nat) : Bool := p == 0 || x.getD (p - 1) 0 == 10
section
variable {x : Array Nat} {s pc pos : Nat} {fo oo : Bool} {ho : Nat} {mu : Bool} {mk : Array (Option Nat)} {sn : Sre.Seen} {r : Option (Nat × Nat)} {n : Nat}
theorem s1_at (h : bol x pos = true) : ∃ sn', (S1 x s 5 pos fo oo ho mu mk sn none).step = S1 x s 7 pos fo oo ho mu mk sn' none := by
  refine ⟨((sn.add 6).add (43 + 1)), ?_⟩
  show (if (pos == 0 || x.getD (pos - 1) 0 == 10) = true then _ else _ : SM) = _
  unfold bol at h
  rw [if_pos h]; rfl
theorem s1_at_no (h : bol x pos = false) : ∃ sn', (S1 x s 5 pos fo oo ho mu mk sn none).step = S1 x s 5 pos fo oo ho mu mk sn' (some false) := by
  refine ⟨((sn.add 6).add (43 + 1)), ?_⟩
  show (if (pos == 0 || x.getD (pos - 1) 0 == 10) = true then _ else _ : SM) = _
  unfold bol at h
  rw [h, if_neg (by decide)]; rfl
theorem s1_lit (hl : pos < x.size) (h : (x.getD pos 0 == 46) = true) : ∃ sn', (S1 x s 7 pos fo oo ho mu mk sn none).step = S1 x s 9 (pos + 1) fo oo ho mu mk sn' none := by
  refine ⟨sn.add 16, ?_⟩
  show (if pos ≥ x.size then _ else match (Except.ok (x.getD pos 0 == 46, sn.add 16) : Except String (Bool × Sre.Seen)) with | .error why => _ | .ok (false, seen) => _ | .ok (true, seen) => _ : SM) = _
  rw [if_neg (by ktn_no "om"), h]; rfl
theorem s1_lit_no (hl : pos < x.size) (h : (x.getD pos 0 == 46) = false) : ∃ sn', (S1 x s 7 pos fo oo ho mu mk sn none).step = S1 x s 7 pos fo oo ho mu mk sn' (some false) := by
  refine ⟨sn.add 16, ?_⟩
  show (if pos ≥ x.size then _ else match (Except.ok (x.getD pos 0 == 46, sn.add 16) : Except String (Bool × Sre.Seen)) with | .error why => _ | .ok (false, seen) => _ | .ok (true, seen) => _ : SM) = _
  rw [if_neg (by ktn_no "om"), h]; rfl
theorem s1_lit_end (hl : x.size ≤ pos) : ∃ sn', (S1 x s 7 pos fo oo ho mu mk sn none).step = S1 x s 7 pos fo oo ho mu mk sn' (some false) := by
  refine ⟨sn.add 16, ?_⟩
  show (if pos ≥ x.size then _ else _ : SM) = _
  rw [if_pos (by ktn_no "om")]; rfl
theorem s1_ok (h : (pos == s) = false) : ∃ sn', (S1 x s 9 pos fo oo ho mu mk sn none).step = S1 x s 9 pos fo oo pos mu mk sn' (some true) := by
  refine ⟨sn.add 1, ?_⟩
  show (if (oo && ((false && pos != x.size) || (mu && pos == s))) = true then _ else _ : SM) = _
  rw [h]; cases oo <;> cases mu <;> rfl
theorem s1_true : Ends (S1 x s pc pos fo oo ho mu mk sn (some true)) 2 (some (s, ho)) := ⟨rfl, rfl, rfl⟩
theorem s1_false (h : s < x.size) : (S1 x s pc pos fo oo ho mu mk sn (some false)).step = S1 x (s + 1) 5 (s + 1) false false (s + 1) false mk sn none := by
  show (if s < x.size then _ else _ : SM) = _
  rw [if_pos h]; rfl
theorem s1_false_end (h : ¬ s < x.size) : Ends (S1 x s pc pos fo oo ho mu mk sn (some false)) 2 none := by
  have e : (S1 x s pc pos fo oo ho mu mk sn (some false)).step = _ := show (if s < x.size then _ else _ : SM) = _ by rw [if_neg h]
  refine Ends.step (n := 1) ?_ rfl
  rw [e]
  rfl
noncomputable def hit1 (x : Array Nat) (p : Nat) : Bool := bol x p && (decide (p < x.size) && x.getD p 0 == 46)
noncomputable def find1 (x : Array Nat) : Nat → Nat → Option (Nat × Nat)
  | 0, _ => none
  | k + 1, s => if hit1 x s then some (s, s + 1) else if s < x.size then find1 x k (s + 1) else none
theorem search1 : ∀ (k s : Nat) (fo oo : Bool) (ho : Nat) (mu : Bool) (mk : Array (Option Nat)) (sn : Sre.Seen), s ≤ x.size → x.size < s + k → Ends (S1 x s 5 s fo oo ho mu mk sn none) (5 * k + 5) (find1 x k s)
  | 0, s, fo, oo, ho, mu, mk, sn, hs, hk => by
    (first | lia | omega)
  | k + 1, s, fo, oo, ho, mu, mk, sn, hs, hk => by
    unfold find1
    have next : ∀ pc pos ho' sn', Ends (S1 x s pc pos fo oo ho' mu mk sn' (some false)) (5 * k + 7) (if s < x.size then find1 x k (s + 1) else none) := fun pc pos ho' sn' => by
      by_cases h : s < x.size
      · rw [if_pos h]
        refine Ends.mono (n := (5 * k + 5) + 1) (Ends.step ?_ rfl) (by ktn_no "om")
        rw [s1_false h]
        exact search1 k (s + 1) _ _ _ _ _ _ (by ktn_no "om") (by ktn_no "om")
      · rw [if_neg h]
        exact (s1_false_end h).mono (by ktn_no "om")
    cases hb : bol x s with
    | false =>
      have e : hit1 x s = false := by unfold hit1; rw [hb]; rfl
      rw [e, if_neg (by decide)]
      obtain ⟨sn', es⟩ := s1_at_no (s := s) (fo := fo) (oo := oo) (ho := ho) (mu := mu) (mk := mk) (sn := sn) hb
      refine Ends.mono (n := (5 * k + 7) + 1) (Ends.step ?_ rfl) (by ktn_no "om")
      rw [es]
      exact next _ _ _ _
    | true =>
      obtain ⟨sn', es⟩ := s1_at (s := s) (fo := fo) (oo := oo) (ho := ho) (mu := mu) (mk := mk) (sn := sn) hb
      refine Ends.mono (n := ((5 * k + 8) + 1)) (Ends.step ?_ rfl) (by ktn_no "om")
      rw [es]
      by_cases hl : s < x.size
      · cases hc : x.getD s 0 == 46 with
        | true =>
          have e : hit1 x s = true := by unfold hit1; rw [hb, hc]; simpa using hl
          rw [e, if_pos rfl]
          obtain ⟨sn2, es2⟩ := s1_lit (s := s) (fo := fo) (oo := oo) (ho := ho) (mu := mu) (mk := mk) (sn := sn') hl hc
          refine Ends.mono (n := 2 + 1 + 1) (Ends.step ?_ rfl) (by ktn_no "om")
          rw [es2]
          obtain ⟨sn3, es3⟩ := s1_ok (x := x) (s := s) (pos := s + 1) (fo := fo) (oo := oo) (ho := ho) (mu := mu) (mk := mk) (sn := sn2) (by simp)
          refine Ends.step ?_ rfl
          rw [es3]
          exact s1_true
        | false =>
          have e : hit1 x s = false := by unfold hit1; rw [hc]; simp
          rw [e, if_neg (by decide)]
          obtain ⟨sn2, es2⟩ := s1_lit_no (s := s) (fo := fo) (oo := oo) (ho := ho) (mu := mu) (mk := mk) (sn := sn') hl hc
          refine Ends.step ?_ rfl
          rw [es2]
          exact next _ _ _ _
      · have e : hit1 x s = false := by unfold hit1; rw [decide_eq_false hl]; simp
        rw [e, if_neg (by decide)]
        obtain ⟨sn2, es2⟩ := s1_lit_end (s := s) (pos := s) (x := x) (fo := fo) (oo := oo) (ho := ho) (mu := mu) (mk := mk) (sn := sn') (by ktn_no "om")
        refine Ends.step ?_ rfl
        rw [es2]
        exact next _ _ _ _
theorem search1_from {must : Bool} (hs : s ≤ x.size) : Ends (Sre.forSearch code1 x 0 s x.size must) (5 * x.size + 20) (if s < x.size then find1 x (x.size - s + 1) s else none) := by
  by_cases h : s < x.size
  · rw [if_pos h]
    have e : ∃ mk sn, Sre.forSearch code1 x 0 s x.size must = S1 x s 5 s true true s must mk sn none := by
      refine ⟨Array.replicate (2 * 0) none, ({} : Sre.Seen).add 14, ?_⟩
      show (if (decide (s > x.size) || decide (x.size - s < 1)) = true then _ else _ : SM) = _
      rw [if_neg (by simp; (first | lia | omega))]
      rfl
    (refine x2_1 (e) ?_; try clear e; intro mk sn e)
    rw [e]
    exact (search1 (x.size - s + 1) s _ _ _ _ _ _ (by ktn_no "om") (by ktn_no "om")).mono (by ktn_no "om")
  · rw [if_neg h]
    have e : Sre.forSearch code1 x 0 s x.size must = _ := show (if (decide (s > x.size) || decide (x.size - s < 1)) = true then _ else _ : SM) = _ by rw [if_pos (by simp; (first | lia | omega))]
    rw [e]
    exact Ends.mono (n := 1) rfl (by ktn_no "om")
end

end
section
open PySem.Builtin.Re
noncomputable abbrev code2 : Array Nat := #[14, 9, 4, 1, 2, 16, 10, 16, 13, 0, 7, 7, 16, 13, 16, 10, 15, 18, 5, 16, 10, 15, 13, 11, 16, 13, 5, 5, 0, 16, 10, 1, 15, 2, 0, 1]
noncomputable abbrev NS (t : Nat) (fo : Bool) : Sre.Frame := { wait := .nextStart, pc := 10, pos := t, outermost := fo }
noncomputable abbrev NB (p t : Nat) (fo : Bool) : Sre.Frame := { wait := .nextBranch, pc := p, pos := t, outermost := fo }
noncomputable abbrev LN (t : Nat) (fo : Bool) : Sre.Frame := { wait := .lookNot, pc := 26, pos := t, outermost := fo }
/-- the machine within an attempt at s -/
noncomputable def S2 (x : Array Nat) (s : Nat) (frs : List Sre.Frame) (wt pc pos : Nat) (oo : Bool) (ho : Nat) (mk : Array (Option Nat)) (sn : Sre.Seen) (an : Option Bool) : SM :=
  { code := code2, text := x, lim := x.size, start := s, lastStart := x.size, mustAdvance := false, pc, pos, handed := ho, outermost := oo, marks := mk, lastmark := -1, lastindex := -1, frames := frs, weight := wt, seen := sn, answer := an }
section
variable {x : Array Nat} {s t pc pos : Nat} {fo f1 oo : Bool} {ho : Nat} {mk : Array (Option Nat)} {sn : Sre.Seen} {r : Option (Nat × Nat)} {n wt : Nat} {frs : List Sre.Frame}
theorem s2_branch : ∃ sn', (S2 x s [NS t fo] 1 10 pos oo ho mk sn none).step = S2 x s [NB 11 pos oo, NS t fo] 2 12 pos oo pos mk sn' none := ⟨_, rfl⟩
theorem s2_jump16 : ∃ sn', (S2 x s frs wt 16 pos oo ho mk sn none).step = S2 x s frs wt 35 pos oo ho mk sn' none := ⟨sn.add 15, by cases frs <;> rfl⟩
theorem s2_jump21 : ∃ sn', (S2 x s frs wt 21 pos oo ho mk sn none).step = S2 x s frs wt 35 pos oo ho mk sn' none := ⟨sn.add 15, by cases frs <;> rfl⟩
theorem s2_jump32 : ∃ sn', (S2 x s frs wt 32 pos oo ho mk sn none).step = S2 x s frs wt 35 pos oo ho mk sn' none := ⟨sn.add 15, by cases frs <;> rfl⟩
theorem s2_ok : ∃ sn', (S2 x s frs wt 35 pos oo ho mk sn none).step = S2 x s frs wt 35 pos oo pos mk sn' (some true) := ⟨sn.add 1, by cases frs <;> cases oo <;> rfl⟩
theorem s2_alt2 : (S2 x s [NB 11 t f1, NS t fo] 2 pc pos oo ho mk sn (some false)).step = S2 x s [NB 18 t f1, NS t fo] 2 19 t f1 t mk sn none := rfl
theorem s2_alt3 : (S2 x s [NB 18 t f1, NS t fo] 2 pc pos oo ho mk sn (some false)).step = S2 x s [NB 23 t f1, NS t fo] 2 24 t f1 t mk sn none := rfl
theorem s2_look : ∃ sn', (S2 x s [NB 23 t f1, NS t fo] 2 26 pos oo ho mk sn none).step = S2 x s [LN pos oo, NB 23 t f1, NS t fo] 3 29 pos false pos mk sn' none := ⟨sn.add 5, rfl⟩
theorem s2_look_no : (S2 x s [LN t f1, NB 23 s fo, NS s oo] 3 pc pos false ho mk sn (some false)).step = S2 x s [NB 23 s fo, NS s oo] 2 32 t f1 ho mk sn none := rfl
theorem s2_true {p : Nat} : Ends (S2 x s [NB p t f1, NS t fo] 2 pc pos oo ho mk sn (some true)) 3 (some (s, ho)) := ⟨rfl, rfl, rfl⟩
theorem s2_lit12 (hl : pos < x.size) (h : (x.getD pos 0 == 13) = true) : ∃ sn', (S2 x s frs wt 12 pos oo ho mk sn none).step = S2 x s frs wt 14 (pos + 1) oo ho mk sn' none := by
  refine ⟨sn.add 16, ?_⟩
  cases frs <;>
  · show (if pos ≥ x.size then _ else match (Except.ok (x.getD pos 0 == 13, sn.add 16) : Except String (Bool × Sre.Seen)) with | .error why => _ | .ok (false, seen) => _ | .ok (true, seen) => _ : SM) = _
    rw [if_neg (by ktn_no "om"), h]; rfl
theorem s2_lit12_no (h : ¬ (pos < x.size ∧ (x.getD pos 0 == 13) = true)) : ∃ sn', (S2 x s frs wt 12 pos oo ho mk sn none).step = S2 x s frs wt 12 pos oo ho mk sn' (some false) := by
  refine ⟨sn.add 16, ?_⟩
  by_cases hl : pos < x.size
  · have h : (x.getD pos 0 == 13) = false := by cases q : x.getD pos 0 == 13 with | false => rfl | true => exact absurd ⟨hl, q⟩ h
    cases frs <;>
    · show (if pos ≥ x.size then _ else match (Except.ok (x.getD pos 0 == 13, sn.add 16) : Except String (Bool × Sre.Seen)) with | .error why => _ | .ok (false, seen) => _ | .ok (true, seen) => _ : SM) = _
      rw [if_neg (by ktn_no "om"), h]; rfl
  · cases frs <;>
    · show (if pos ≥ x.size then _ else _ : SM) = _
      rw [if_pos (by ktn_no "om")]; rfl
theorem s2_lit14 (hl : pos < x.size) (h : (x.getD pos 0 == 10) = true) : ∃ sn', (S2 x s frs wt 14 pos oo ho mk sn none).step = S2 x s frs wt 16 (pos + 1) oo ho mk sn' none := by
  refine ⟨sn.add 16, ?_⟩
  cases frs <;>
  · show (if pos ≥ x.size then _ else match (Except.ok (x.getD pos 0 == 10, sn.add 16) : Except String (Bool × Sre.Seen)) with | .error why => _ | .ok (false, seen) => _ | .ok (true, seen) => _ : SM) = _
    rw [if_neg (by ktn_no "om"), h]; rfl
theorem s2_lit14_no (h : ¬ (pos < x.size ∧ (x.getD pos 0 == 10) = true)) : ∃ sn', (S2 x s frs wt 14 pos oo ho mk sn none).step = S2 x s frs wt 14 pos oo ho mk sn' (some false) := by
  refine ⟨sn.add 16, ?_⟩
  by_cases hl : pos < x.size
  · have h : (x.getD pos 0 == 10) = false := by cases q : x.getD pos 0 == 10 with | false => rfl | true => exact absurd ⟨hl, q⟩ h
    cases frs <;>
    · show (if pos ≥ x.size then _ else match (Except.ok (x.getD pos 0 == 10, sn.add 16) : Except String (Bool × Sre.Seen)) with | .error why => _ | .ok (false, seen) => _ | .ok (true, seen) => _ : SM) = _
      rw [if_neg (by ktn_no "om"), h]; rfl
  · cases frs <;>
    · show (if pos ≥ x.size then _ else _ : SM) = _
      rw [if_pos (by ktn_no "om")]; rfl
theorem s2_lit19 (hl : pos < x.size) (h : (x.getD pos 0 == 10) = true) : ∃ sn', (S2 x s frs wt 19 pos oo ho mk sn none).step = S2 x s frs wt 21 (pos + 1) oo ho mk sn' none := by
  refine ⟨sn.add 16, ?_⟩
  cases frs <;>
  · show (if pos ≥ x.size then _ else match (Except.ok (x.getD pos 0 == 10, sn.add 16) : Except String (Bool × Sre.Seen)) with | .error why => _ | .ok (false, seen) => _ | .ok (true, seen) => _ : SM) = _
    rw [if_neg (by ktn_no "om"), h]; rfl
theorem s2_lit19_no (h : ¬ (pos < x.size ∧ (x.getD pos 0 == 10) = true)) : ∃ sn', (S2 x s frs wt 19 pos oo ho mk sn none).step = S2 x s frs wt 19 pos oo ho mk sn' (some false) := by
  refine ⟨sn.add 16, ?_⟩
  by_cases hl : pos < x.size
  · have h : (x.getD pos 0 == 10) = false := by cases q : x.getD pos 0 == 10 with | false => rfl | true => exact absurd ⟨hl, q⟩ h
    cases frs <;>
    · show (if pos ≥ x.size then _ else match (Except.ok (x.getD pos 0 == 10, sn.add 16) : Except String (Bool × Sre.Seen)) with | .error why => _ | .ok (false, seen) => _ | .ok (true, seen) => _ : SM) = _
      rw [if_neg (by ktn_no "om"), h]; rfl
  · cases frs <;>
    · show (if pos ≥ x.size then _ else _ : SM) = _
      rw [if_pos (by ktn_no "om")]; rfl
theorem s2_lit24 (hl : pos < x.size) (h : (x.getD pos 0 == 13) = true) : ∃ sn', (S2 x s frs wt 24 pos oo ho mk sn none).step = S2 x s frs wt 26 (pos + 1) oo ho mk sn' none := by
  refine ⟨sn.add 16, ?_⟩
  cases frs <;>
  · show (if pos ≥ x.size then _ else match (Except.ok (x.getD pos 0 == 13, sn.add 16) : Except String (Bool × Sre.Seen)) with | .error why => _ | .ok (false, seen) => _ | .ok (true, seen) => _ : SM) = _
    rw [if_neg (by ktn_no "om"), h]; rfl
theorem s2_lit29_no (h : ¬ (pos < x.size ∧ (x.getD pos 0 == 10) = true)) : ∃ sn', (S2 x s frs wt 29 pos oo ho mk sn none).step = S2 x s frs wt 29 pos oo ho mk sn' (some false) := by
  refine ⟨sn.add 16, ?_⟩
  by_cases hl : pos < x.size
  · have h : (x.getD pos 0 == 10) = false := by cases q : x.getD pos 0 == 10 with | false => rfl | true => exact absurd ⟨hl, q⟩ h
    cases frs <;>
    · show (if pos ≥ x.size then _ else match (Except.ok (x.getD pos 0 == 10, sn.add 16) : Except String (Bool × Sre.Seen)) with | .error why => _ | .ok (false, seen) => _ | .ok (true, seen) => _ : SM) = _
      rw [if_neg (by ktn_no "om"), h]; rfl
  · cases frs <;>
    · show (if pos ≥ x.size then _ else _ : SM) = _
      rw [if_pos (by ktn_no "om")]; rfl
end

end
section
open PySem.Builtin.Re
noncomputable def nl (c : Nat) : Bool := c == 10 || c == 13
noncomputable def end2 (x : Array Nat) (t : Nat) : Nat := if x.getD t 0 == 13 ∧ (t + 1 < x.size ∧ (x.getD (t + 1) 0 == 10) = true) then t + 2 else t + 1
section
variable {x : Array Nat} {s t pc pos : Nat} {fo f1 oo : Bool} {ho : Nat} {mk : Array (Option Nat)} {sn : Sre.Seen} {r : Option (Nat × Nat)} {n wt : Nat} {frs : List Sre.Frame}
theorem attempt2 (hl : t < x.size) (h : nl (x.getD t 0) = true) : Ends (S2 x t [NS t fo] 1 10 t oo ho mk sn none) 30 (some (t, end2 x t)) := by
  obtain ⟨sn1, e1⟩ := s2_branch (x := x) (s := t) (t := t) (fo := fo) (pos := t) (oo := oo) (ho := ho) (mk := mk) (sn := sn)
  refine Ends.step (n := 29) ?_ rfl
  rw [e1]
  by_cases h13 : (x.getD t 0 == 13) = true
  · obtain ⟨sn2, e2⟩ := s2_lit12 (x := x) (s := t) (pos := t) (frs := [NB 11 t oo, NS t fo]) (wt := 2) (oo := oo) (ho := t) (mk := mk) (sn := sn1) hl h13
    refine Ends.step (n := 28) ?_ rfl
    rw [e2]
    by_cases h10 : t + 1 < x.size ∧ (x.getD (t + 1) 0 == 10) = true
    · have ee : end2 x t = t + 2 := if_pos ⟨h13, h10⟩
      obtain ⟨sn3, e3⟩ := s2_lit14 (x := x) (s := t) (pos := t + 1) (frs := [NB 11 t oo, NS t fo]) (wt := 2) (oo := oo) (ho := t) (mk := mk) (sn := sn2) h10.1 h10.2
      refine Ends.step (n := 27) ?_ rfl
      rw [e3]
      obtain ⟨sn4, e4⟩ := s2_jump16 (x := x) (s := t) (pos := t + 1 + 1) (frs := [NB 11 t oo, NS t fo]) (wt := 2) (oo := oo) (ho := t) (mk := mk) (sn := sn3)
      refine Ends.step (n := 26) ?_ rfl
      rw [e4]
      obtain ⟨sn5, e5⟩ := s2_ok (x := x) (s := t) (pos := t + 1 + 1) (frs := [NB 11 t oo, NS t fo]) (wt := 2) (oo := oo) (ho := t) (mk := mk) (sn := sn4)
      refine Ends.step (n := 25) ?_ rfl
      rw [e5, ee]
      exact Ends.mono s2_true (by ktn_no "om")
    · have ee : end2 x t = t + 1 := if_neg (fun z => h10 z.2)
      obtain ⟨sn3, e3⟩ := s2_lit14_no (x := x) (s := t) (pos := t + 1) (frs := [NB 11 t oo, NS t fo]) (wt := 2) (oo := oo) (ho := t) (mk := mk) (sn := sn2) h10
      refine Ends.step (n := 27) ?_ rfl
      rw [e3]
      refine Ends.step (n := 26) ?_ rfl
      rw [s2_alt2]
      have hn10 : ¬ (t < x.size ∧ (x.getD t 0 == 10) = true) := fun z => by
        have a := eq_of_beq h13
        have b := eq_of_beq z.2
        rw [a] at b; cases b
      obtain ⟨sn4, e4⟩ := s2_lit19_no (x := x) (s := t) (pos := t) (frs := [NB 18 t oo, NS t fo]) (wt := 2) (oo := oo) (ho := t) (mk := mk) (sn := sn3) hn10
      refine Ends.step (n := 25) ?_ rfl
      rw [e4]
      refine Ends.step (n := 24) ?_ rfl
      rw [s2_alt3]
      obtain ⟨sn5, e5⟩ := s2_lit24 (x := x) (s := t) (pos := t) (frs := [NB 23 t oo, NS t fo]) (wt := 2) (oo := oo) (ho := t) (mk := mk) (sn := sn4) hl h13
      refine Ends.step (n := 23) ?_ rfl
      rw [e5]
      obtain ⟨sn6, e6⟩ := s2_look (x := x) (s := t) (t := t) (f1 := oo) (fo := fo) (pos := t + 1) (oo := oo) (ho := t) (mk := mk) (sn := sn5)
      refine Ends.step (n := 22) ?_ rfl
      rw [e6]
      obtain ⟨sn7, e7⟩ := s2_lit29_no (x := x) (s := t) (pos := t + 1) (frs := [LN (t + 1) oo, NB 23 t oo, NS t fo]) (wt := 3) (oo := false) (ho := t + 1) (mk := mk) (sn := sn6) h10
      refine Ends.step (n := 21) ?_ rfl
      rw [e7]
      refine Ends.step (n := 20) ?_ rfl
      rw [s2_look_no]
      obtain ⟨sn8, e8⟩ := s2_jump32 (x := x) (s := t) (pos := t + 1) (frs := [NB 23 t oo, NS t fo]) (wt := 2) (oo := oo) (ho := t + 1) (mk := mk) (sn := sn7)
      refine Ends.step (n := 19) ?_ rfl
      rw [e8]
      obtain ⟨sn9, e9⟩ := s2_ok (x := x) (s := t) (pos := t + 1) (frs := [NB 23 t oo, NS t fo]) (wt := 2) (oo := oo) (ho := t + 1) (mk := mk) (sn := sn8)
      refine Ends.step (n := 18) ?_ rfl
      rw [e9, ee]
      exact Ends.mono s2_true (by ktn_no "om")
  · have h10 : (x.getD t 0 == 10) = true := by
      unfold nl at h
      cases q : x.getD t 0 == 10 with
      | true => rfl
      | false => rw [q] at h; exact absurd (by simpa using h) (by simpa using h13)
    have ee : end2 x t = t + 1 := if_neg (fun z => h13 z.1)
    obtain ⟨sn2, e2⟩ := s2_lit12_no (x := x) (s := t) (pos := t) (frs := [NB 11 t oo, NS t fo]) (wt := 2) (oo := oo) (ho := t) (mk := mk) (sn := sn1) (fun z => h13 z.2)
    refine Ends.step (n := 28) ?_ rfl
    rw [e2]
    refine Ends.step (n := 27) ?_ rfl
    rw [s2_alt2]
    obtain ⟨sn3, e3⟩ := s2_lit19 (x := x) (s := t) (pos := t) (frs := [NB 18 t oo, NS t fo]) (wt := 2) (oo := oo) (ho := t) (mk := mk) (sn := sn2) hl h10
    refine Ends.step (n := 26) ?_ rfl
    rw [e3]
    obtain ⟨sn4, e4⟩ := s2_jump21 (x := x) (s := t) (pos := t + 1) (frs := [NB 18 t oo, NS t fo]) (wt := 2) (oo := oo) (ho := t) (mk := mk) (sn := sn3)
    refine Ends.step (n := 25) ?_ rfl
    rw [e4]
    obtain ⟨sn5, e5⟩ := s2_ok (x := x) (s := t) (pos := t + 1) (frs := [NB 18 t oo, NS t fo]) (wt := 2) (oo := oo) (ho := t) (mk := mk) (sn := sn4)
    refine Ends.step (n := 24) ?_ rfl
    rw [e5, ee]
    exact Ends.mono s2_true (by ktn_no "om")
theorem inSet2 (c : Nat) (sn : Sre.Seen) : ∃ sn', Sre.inSet code2 c 36 5 true sn = .ok (nl c, sn') := by
  unfold nl
  cases h1 : c == 10 with
  | true =>
    refine ⟨sn.add 16, ?_⟩
    show (if (c == 10) = true then _ else _ : Except String (Bool × Sre.Seen)) = _
    rw [h1]; rfl
  | false =>
    cases h2 : c == 13 with
    | true =>
      refine ⟨(sn.add 16).add 16, ?_⟩
      show (if (c == 10) = true then _ else (if (c == 13) = true then _ else _) : Except String (Bool × Sre.Seen)) = _
      rw [h1, h2]; rfl
    | false =>
      refine ⟨((sn.add 16).add 16).add 0, ?_⟩
      show (if (c == 10) = true then _ else (if (c == 13) = true then _ else _) : Except String (Bool × Sre.Seen)) = _
      rw [h1, h2]; rfl
noncomputable def first2 (x : Array Nat) : Nat → Nat → Option Nat
  | 0, _ => none
  | k + 1, s => if s ≥ x.size then none else if nl (x.getD s 0) then some s else first2 x k (s + 1)
theorem admitted2 {m : SM} (h1 : m.code = code2) (h2 : m.text = x) (h3 : m.lim = x.size) : ∀ (k s : Nat) (sn : Sre.Seen), ∃ sn', Sre.M.admitted m k s sn = .ok (first2 x k s, sn')
  | 0, s, sn => ⟨sn, rfl⟩
  | k + 1, s, sn => by
    unfold Sre.M.admitted first2
    rw [h1, h2, h3]
    by_cases h : s ≥ x.size
    · rw [if_pos h, if_pos h]; exact ⟨sn, rfl⟩
    · rw [if_neg h, if_neg h]
      obtain ⟨sn', e⟩ := inSet2 (x.getD s 0) sn
      rw [show code2.size = 36 from rfl, e]
      cases hn : nl (x.getD s 0) with
      | true => exact ⟨sn', by rw [if_pos rfl]⟩
      | false =>
        rw [if_neg (by decide)]
        exact admitted2 h1 h2 h3 k (s + 1) sn'
theorem first2_spec : ∀ (k s t : Nat), first2 x k s = some t → s ≤ t ∧ t < x.size ∧ nl (x.getD t 0) = true
  | 0, _, _, h => by cases h
  | k + 1, s, t, h => by
    unfold first2 at h
    split at h
    · cases h
    · split at h
      · cases h; exact ⟨Nat.le_refl _, by (first | lia | omega), by assumption⟩
      · (refine x0_3 (first2_spec k (s + 1) t h) ?_; intro a b c)
        exact ⟨by (first | lia | omega), b, c⟩
noncomputable def find2 (x : Array Nat) (s : Nat) : Option (Nat × Nat) := if s < x.size then (first2 x (x.size + 1 - s) s).map fun t => (t, end2 x t) else none
theorem search2_from {must : Bool} (hs : s ≤ x.size) : Ends (Sre.forSearch code2 x 0 s x.size must) 40 (find2 x s) := by
  unfold find2
  by_cases h : s < x.size
  · rw [if_pos h]
    have e : Sre.forSearch code2 x 0 s x.size must = _ := show (if (decide (s > x.size) || decide (x.size - s < 1)) = true then _ else Sre.M.attemptFrom { code := code2, text := x, lim := x.size, start := s, pc := 10, pos := s, handed := s, marks := Array.replicate (2 * 0) none, mustAdvance := must, seen := ({} : Sre.Seen).add 14, lastStart := x.size } s true : SM) = _ by rw [if_neg (by simp; (first | lia | omega))]
    rw [e]
    unfold Sre.M.attemptFrom
    rw [if_neg (by show ¬ (!true) = true; decide)]
    obtain ⟨sn', ea⟩ := admitted2 (x := x) (m := { code := code2, text := x, lim := x.size, start := s, pc := 10, pos := s, handed := s, marks := Array.replicate (2 * 0) none, mustAdvance := must, seen := ({} : Sre.Seen).add 14, lastStart := x.size }) rfl rfl rfl (x.size + 1 - s) s (({} : Sre.Seen).add 14)
    dsimp only at ea ⊢
    rw [ea]
    cases hf : first2 x (x.size + 1 - s) s with
    | none => exact Ends.mono (n := 1) rfl (by ktn_no "om")
    | some t =>
      (refine x0_3 (first2_spec _ _ _ hf) ?_; intro a b c)
      dsimp only [Option.map]
      have := attempt2 (x := x) (t := t) (fo := true) (oo := true) (ho := t) (mk := Array.replicate (2 * 0) none) (sn := sn') b c
      exact Ends.mono (n := 30) this (by ktn_no "om")
  · rw [if_neg h]
    have e : Sre.forSearch code2 x 0 s x.size must = _ := show (if (decide (s > x.size) || decide (x.size - s < 1)) = true then _ else _ : SM) = _ by rw [if_pos (by simp; (first | lia | omega))]
    rw [e]
    exact Ends.mono (n := 1) rfl (by ktn_no "om")
end

end
section
open PySem.Builtin.Re
noncomputable abbrev a_re1 : Addr := 43
noncomputable abbrev a_re2 : Addr := 48
section
variable {w : World} {A : Around} {E : Value → Shared → Prop} {h : Heap} {g : Array GenState} {d : Drawn} {tk : Nat} {os : OsState} {x rp : PySem.Str} {tx tr : Tok}
noncomputable def fldsOf (o : Obj) : Array Value := match o.data with | .fields vs => vs | _ => #[]
noncomputable def seqOf (o : Obj) : Array Value := match o.data with | .seq vs _ => vs | _ => #[]
noncomputable def seqN (o : Obj) : Nat := match o.data with | .seq _ n => n | _ => 0
noncomputable def refOf (v : Value) : Addr := match v with | .ref a => a | _ => 0
/-- a pattern object: its words -/
structure Pat (h : Heap) (p : Addr) (code : Array Nat) : Prop where
  obj : ∃ o vs ct, h.get? p = some o ∧ o.cls = .type "re.Pattern" ∧ o.dict = none ∧ o.data = .fields vs ∧ reRawNat (vs.getD 6 .none) = 0 ∧ reRawNat (vs.getD 2 .none) = 0 ∧ vs.getD 5 .none = .ref ct ∧ ∃ oc ws n, h.get? ct = some oc ∧ oc.data = .seq ws n ∧ (ws.map reRawOf).map (·.toNat) = code
theorem get_K {P : Params} {a : Addr} (e : ((KF P).lookup a).isSome = true) : (KF P).lookup a = some ((KF P).lookup a).get! := by
  cases q : (KF P).lookup a with
  | none => rw [q] at e; cases e
  | some o => rfl
theorem pat_of {p : Addr} {code : Array Nat} (X : (KF w.params).In h) (h1 : ((KF w.params).lookup p).isSome = true) (h2 : ((KF w.params).lookup p).get!.cls = .type "re.Pattern") (h3 : ((KF w.params).lookup p).get!.dict = none) (h4 : ((KF w.params).lookup p).get!.data = .fields (fldsOf ((KF w.params).lookup p).get!))
    (h5 : reRawNat ((fldsOf ((KF w.params).lookup p).get!).getD 6 .none) = 0) (h6 : reRawNat ((fldsOf ((KF w.params).lookup p).get!).getD 2 .none) = 0) (ct : Addr) (h7 : (fldsOf ((KF w.params).lookup p).get!).getD 5 .none = .ref ct) (h8 : ((KF w.params).lookup ct).isSome = true) (h9 : ((KF w.params).lookup ct).get!.data = .seq (seqOf ((KF w.params).lookup ct).get!) (seqN ((KF w.params).lookup ct).get!))
    (h10 : ((seqOf ((KF w.params).lookup ct).get!).map reRawOf).map (·.toNat) = code) : Pat h p code :=
  ⟨_, _, ct, X _ _ (get_K h1), h2, h3, h4, h5, h6, h7, _, _, _, X _ _ (get_K h8), h9, h10⟩
theorem pat1 (X : (KF w.params).In h) : Pat h a_re1 code1 := pat_of X (by kernel_rfl) (by kernel_rfl) (by kernel_rfl) (by kernel_rfl) (by kernel_rfl) (by kernel_rfl) 42 (by kernel_rfl) (by kernel_rfl) (by kernel_rfl) (by kernel_rfl)
theorem pat2 (X : (KF w.params).In h) : Pat h a_re2 code2 := pat_of X (by kernel_rfl) (by kernel_rfl) (by kernel_rfl) (by kernel_rfl) (by kernel_rfl) (by kernel_rfl) 47 (by kernel_rfl) (by kernel_rfl) (by kernel_rfl) (by kernel_rfl)
theorem re_target {p : Addr} {code : Array Nat} {Q : ReTarget → Shared → Prop} (P : Pat h p code) (q : Q ⟨.ref p, .str x tx, code, x.cps, 0, 0, 0, x.cps.size⟩ ⟨h, g, d, tk, os⟩) : wpAny (M w) A (reWholeTarget (.ref p) (.str x tx)) Q E ⟨h, g, d, tk, os⟩ := by
  obtain ⟨o, vs, ct, hp, hc, hd, hf, h6, h2, h5, oc, ws, n, hct, hws, hw⟩ := P.obj
  unfold reWholeTarget reTextOf reNoCollectionInside reRawItems
  refine wpAny_bind (wpAny_fieldsOf hp hf ?_)
  refine wpAny_bind (wpAny_bind (wpAny_of_eq (show asStr? (.str x tx) = pure (some x) from rfl) (wpAny_pure ?_)))
  dsimp only
  rw [h6, h2, h5]
  rw [if_neg (by decide), if_neg (by decide), if_neg (by decide)]
  refine wpAny_bind (wpAny_pure (wpAny_bind (wpAny_bind (wpAny_seqItems hct hws (wpAny_pure (wpAny_pure ?_))))))
  have e : Array.map (fun x => x.toNat) (Array.map reRawOf ((some ws).getD #[])) = code := hw
  rw [e]
  exact q
/-- the pieces of a text in which all that is found is replaced -/
noncomputable def subGo (find : Nat → Option (Nat × Nat)) (x rp : PySem.Str) : Nat → Nat → List PySem.Str
  | 0, _ => []
  | k + 1, dn => match find dn with
    | some (a, b) => (if dn < a then [⟨x.cps.extract dn a⟩] else []) ++ rp :: subGo find x rp k b
    | none => if dn < x.cps.size then [⟨x.cps.extract dn x.cps.size⟩] else []
variable {B : Heap} {L : Addr} {m : PySem.Str → Option Value} {cl : List (PySem.Str × Addr)} {cm : PySem.Str → Option Value} {rest : List (Addr × Obj)} {s₀ : Shared} {d₀ : Drawn} {tk₀ : Nat} {p lp : Addr} {code : Array Nat} {find : Nat → Option (Nat × Nat)} {N : Nat} {R : Result → Shared → Prop}
theorem push_piece {l : List (PySem.Str × Tok)} {nl : Nat} {z : PySem.Str} {t : Tok} {Q : Unit → Shared → Prop} (F : Fm w B L cl s₀ m cm ((lp, lsO (strValues l) nl) :: rest) ⟨h, g, d₀, tk₀, os⟩) (hz : l.length ≤ 100000)
    (q : ∀ h' nl', Fm w B L cl s₀ m cm ((lp, lsO (strValues (l ++ [(z, t)])) nl') :: rest) ⟨h', g, d, tk, os⟩ → Q () ⟨h', g, d, tk, os⟩) : wpAny (M w) A (updateSeq lp (·.push (.str z t))) Q E ⟨h, g, d, tk, os⟩ := by
  refine st_updateSeq (F.at 0 rfl) (by simpa [strValues] using hz) (by simp [strValues]; (first | lia | omega)) fun h' n' hs hx => ?_
  have e : (strValues l).toArray.push (.str z t) = (strValues (l ++ [(z, t)])).toArray := by simp [strValues]
  exact q h' n' (F.set1 (i := 0) (o' := ⟨.type "list", none, .seq (strValues (l ++ [(z, t)])).toArray n', #[]⟩) rfl hs (by rw [← e]; exact hx))
theorem re_slice {a b : Nat} {Q : Value → Shared → Prop} (hx : x.length ≤ 100000) (q : Q (.str ⟨x.cps.extract a b⟩ tk) ⟨h, g, d, tk + 1, os⟩) : wpAny (M w) A (reSlice x.cps 0 a b) Q E ⟨h, g, d, tk, os⟩ := by
  unfold reSlice
  rw [if_pos (by decide)]
  refine wpAny_mkStr' q (Nat.le_trans ?_ (Nat.le_trans hx (by decide)))
  show (x.cps.extract a b).size ≤ x.cps.size
  simp; (first | lia | omega)
theorem sub_loop (hP : ∀ h, (KF w.params).In h → Pat h p code) (hcl : A.units < cLine) (hx : x.length ≤ 20000) (hN : N ≤ 2 ^ 64)
    (hf : ∀ (dn : Nat) (must : Bool), dn ≤ x.cps.size → Ends (Sre.forSearch code x.cps 0 dn x.cps.size must) N (find dn)) (hfb : ∀ dn a b, find dn = some (a, b) → dn ≤ a ∧ a < b ∧ b ≤ x.cps.size) :
    ∀ (k dn : Nat) (l : List (PySem.Str × Tok)) (nl cnt : Nat) (must : Bool) (h : Heap) (g : Array GenState) (d : Drawn) (tk : Nat), dn ≤ x.cps.size → x.cps.size < dn + k → l.length ≤ 2 * dn → Fm w B L cl s₀ m cm ((lp, lsO (strValues l) nl) :: rest) ⟨h, g, d₀, tk₀, os⟩ →
      JoinOk ⟨#[]⟩ (l.map (·.1) ++ subGo find x rp k dn) = true →
      (∀ h' tk' t, Fm w B L cl s₀ m cm rest ⟨h', g, d, tk', os⟩ → R (.ok (.ret (.str (Txt.join ⟨#[]⟩ (l.map (·.1) ++ subGo find x rp k dn)) t))) ⟨h', g, d, tk', os⟩) →
      codeAny (M w) A (.builtin "re.Pattern.sub.loop" ⟨[.ref p, .str x tx, .str rp tr, rawInt 0, rawInt 0, rawInt cnt, rawInt dn, rawInt dn, .bool must, .ref lp, .bool false], []⟩) R ⟨h, g, d, tk, os⟩
  | 0, dn, l, nl, cnt, must, h, g, d, tk, h1, h2, h3, F, hj, hq => by (first | lia | omega)
  | k + 1, dn, l, nl, cnt, must, h, g, d, tk, h1, h2, h3, F, hj, hq => by
    refine codeAny_builtin (entryFor_of_tree (by kernel_rfl) : entryFor table "re.Pattern.sub.loop" = some Builtin.«re.Pattern.sub.loop») ?_
    rw [Around.under_plainId (by decide +kernel) _]
    unfold Builtin.«re.Pattern.sub.loop»
    dsimp only [rawInt]
    refine wpAny_bind (re_target (hP _ F.K) ?_)
    rw [if_pos (by decide)]
    unfold reLiteralCannotBeTurned
    refine wpAny_bind (wpAny_bind (wpAny_of_eq (show asStr? (.str rp tr) = pure (some rp) from rfl) ?_))
    rw [if_neg (show ¬ ((some rp).isNone) = true from Bool.false_ne_true)]
    refine wpAny_pure ?_
    refine wpAny_bind ?_
    rw [if_neg (by simp)]
    unfold reNextFound
    simp only [Int.toNat_natCast]
    refine runEnd (hf dn must h1) hN fun o ho => ?_
    cases hfd : find dn with
    | none =>
      rw [hfd] at ho
      dsimp only at ho
      subst ho
      dsimp only
      have fin : ∀ (l' : List (PySem.Str × Tok)) (nl' : Nat) (h' : Heap) (tk' : Nat), l'.map (·.1) = l.map (·.1) ++ subGo find x rp (k + 1) dn → Fm w B L cl s₀ m cm ((lp, lsO (strValues l') nl') :: rest) ⟨h', g, d, tk', os⟩ →
          wpAny (model pw w) A.in1 (do
            let joiner ← reSlice x.cps 0 0 0
            let __do_lift ← seqItems? (Value.ref lp)
            if (__do_lift.getD #[]).isEmpty = true then do
              let text ← pure joiner
              if false = true then do
                let __do_lift ← holding [text] do
                    let __do_lift ← mkInt ↑cnt
                    newTuple [text, __do_lift]
                ret __do_lift
              else ret text
            else do
              let text ← call (Value.builtin (if ((0 : Nat) == 0) = true then "str.join" else "bytes.join")) [joiner, Value.ref lp]
              if false = true then do
                let __do_lift ← holding [text] do
                    let __do_lift ← mkInt ↑cnt
                    newTuple [text, __do_lift]
                ret __do_lift
              else ret text)
            (fun fin s' => match fin with
              | Fin.done f => R (Except.ok f) s'
              | Fin.again c' => c'.quiet = true ∧ codeAny (model pw w) A c' R s')
            (fun e s' => R (Except.error e) s') ⟨h', g, d, tk', os⟩ := fun l' nl' h' tk' hl' F' => by
        refine wpAny_bind (re_slice (by ktn_no "om") ?_)
        refine wpAny_bind (wpAny_seqItems (F'.at 0 rfl) rfl ?_)
        have ej : (⟨x.cps.extract 0 0⟩ : PySem.Str) = ⟨#[]⟩ := by simp
        rw [ej]
        cases hl0 : l' with
        | nil =>
          subst hl0
          rw [if_pos (show ((some (strValues []).toArray).getD #[]).isEmpty = true from rfl)]
          refine wpAny_bind (wpAny_pure ?_)
          rw [if_neg (by decide)]
          have := hq h' (tk' + 1) tk' ((F'.drop 1).withD)
          rw [← hl'] at this
          exact wpAny_pure this
        | cons y l2 =>
          rw [if_neg (by simp [strValues])]
          refine wpAny_bind ?_
          rw [if_pos (show ((0 : Nat) == 0) = true from rfl)]
          refine join_tup (F'.at 0 rfl) (.inl rfl) rfl (by rw [hl']; exact hj) fun t' k' => ?_
          rw [if_neg (by decide), hl']
          exact wpAny_pure (hq h' k' t' ((F'.drop 1).withD))
      have eg : subGo find x rp (k + 1) dn = if dn < x.cps.size then [⟨x.cps.extract dn x.cps.size⟩] else [] := by unfold subGo; rw [hfd]
      by_cases hlt : dn < x.cps.size
      · rw [if_pos hlt]
        rw [if_pos hlt] at eg
        refine wpAny_bind (re_slice (by ktn_no "om") ?_)
        have hxs : x.length = x.cps.size := rfl
        refine wpAny_bind (push_piece F (by ktn_no "om") fun h' nl' F' => ?_)
        exact fin _ _ _ _ (by rw [eg]; simp) F'
      · rw [if_neg hlt]
        rw [if_neg hlt] at eg
        exact fin _ _ _ _ (by rw [eg]; simp) F.withD
    | some ab =>
      obtain ⟨a, b⟩ := ab
      rw [hfd] at ho
      (refine x1_3 (ho) ?_; try clear ho; intro m' eqX1 eqX2 eqX3; subst eqX1; subst eqX2; subst eqX3)
      (refine x0_3 (hfb dn _ _ hfd) ?_; intro q1 q2 q3)
      have hxs : x.length = x.cps.size := rfl
      have eg : subGo find x rp (k + 1) dn = (if dn < m'.start then [⟨x.cps.extract dn m'.start⟩] else []) ++ rp :: subGo find x rp k m'.handed := by conv => lhs; unfold subGo; rw [hfd]
      dsimp only
      by_cases hlt : dn < m'.start
      · rw [if_pos hlt] at eg ⊢
        refine wpAny_bind (re_slice (by ktn_no "om") ?_)
        refine wpAny_bind (push_piece F (by ktn_no "om") fun h' nl' F' => ?_)
        rw [if_pos (by decide)]
        refine wpAny_bind (wpAny_pure ?_)
        rw [if_pos (show (Value.str rp tr != Value.none) = true from rfl)]
        refine wpAny_bind (push_piece F' (by simp; (first | lia | omega)) fun h'' nl'' F'' => ?_)
        refine wpAny_pure ⟨plainId_quiet (by decide +kernel) _, ?_⟩
        refine sub_loop hP hcl hx hN hf hfb k m'.handed (l ++ [(⟨x.cps.extract dn m'.start⟩, tk)] ++ [(rp, tr)]) nl'' (cnt + 1) _ _ _ _ _ q3 (by ktn_no "om") (by simp; (first | lia | omega)) F''.withD (by rw [eg] at hj; simpa using hj) fun h3 tk3 t3 F3 => ?_
        have := hq h3 tk3 t3 F3
        rw [eg] at this
        simpa using this
      · rw [if_neg hlt] at eg ⊢
        rw [if_pos (by decide)]
        refine wpAny_bind (wpAny_pure ?_)
        rw [if_pos (show (Value.str rp tr != Value.none) = true from rfl)]
        refine wpAny_bind (push_piece F (by ktn_no "om") fun h'' nl'' F'' => ?_)
        refine wpAny_pure ⟨plainId_quiet (by decide +kernel) _, ?_⟩
        refine sub_loop hP hcl hx hN hf hfb k m'.handed (l ++ [(rp, tr)]) nl'' (cnt + 1) _ _ _ _ _ q3 (by ktn_no "om") (by simp; (first | lia | omega)) F''.withD (by rw [eg] at hj; simpa using hj) fun h3 tk3 t3 F3 => ?_
        have := hq h3 tk3 t3 F3
        rw [eg] at this
        simpa using this
end

end
section
open PySem.Builtin.Re
section
variable {w : World} {A : Around} {E : Value → Shared → Prop} {h : Heap} {g : Array GenState} {d : Drawn} {tk : Nat} {os : OsState} {x rp : PySem.Str} {tx tr : Tok} {B : Heap} {L : Addr} {m : PySem.Str → Option Value} {cl : List (PySem.Str × Addr)} {cm : PySem.Str → Option Value} {rest : List (Addr × Obj)} {s₀ : Shared} {d₀ : Drawn} {tk₀ : Nat} {p : Addr} {code : Array Nat} {find : Nat → Option (Nat × Nat)} {N : Nat} {Q : Value → Shared → Prop}
theorem re_sub (hP : ∀ h, (KF w.params).In h → Pat h p code) (hcl : A.units < cLine) (hx : x.length ≤ 20000) (hN : N ≤ 2 ^ 64) (hrp : rp.cps.contains 92 = false)
    (hf : ∀ (dn : Nat) (must : Bool), dn ≤ x.cps.size → Ends (Sre.forSearch code x.cps 0 dn x.cps.size must) N (find dn)) (hfb : ∀ dn a b, find dn = some (a, b) → dn ≤ a ∧ a < b ∧ b ≤ x.cps.size)
    (F : Fm w B L cl s₀ m cm rest ⟨h, g, d₀, tk₀, os⟩) (hj : JoinOk ⟨#[]⟩ (subGo find x rp (x.cps.size + 1) 0) = true)
    (hq : ∀ h' tk' t, Fm w B L cl s₀ m cm rest ⟨h', g, d, tk', os⟩ → Q (.str (Txt.join ⟨#[]⟩ (subGo find x rp (x.cps.size + 1) 0)) t) ⟨h', g, d, tk', os⟩) :
    wpAny (M w) A (call (.builtin "re.Pattern.sub") [.ref p, .str rp tr, .str x tx]) Q E ⟨h, g, d, tk, os⟩ := by
  have P := hP h F.K
  obtain ⟨o, vs, ct, hp, hc, hd, hfl, h6, h2, h5, oc, ws, n, hct, hws, hw⟩ := P.obj
  have hi : Looks (model pw w) h (isInstance (.ref p) (.type "re.Pattern")) true := looks_inst hp F.K (by rw [hc]; ktn_no "k_ev")
  refine wpAny_call (codeAny_call_builtin (by decide +kernel) (entryFor_of_tree (by kernel_rfl) : entryFor table "re.Pattern.sub" = some Builtin.«re.Pattern.sub») (check_bi (owner := "re.Pattern") (n := "sub") (by first | exact .inr (by decide +kernel) | exact .inl (by decide +kernel)) (by decide +kernel) hi (by unfold argsOk; kernel_rfl) ?_))
  unfold Builtin.«re.Pattern.sub» reSubstitute
  dsimp only
  refine wpAny_bind (wpAny_of_eq (show reNamed "re.Pattern.sub" "sub" ["repl", "string", "count"] 2 [.str rp tr, .str x tx] [] = pure [some (.str rp tr), some (.str x tx), none] from by kernel_rfl) ?_)
  dsimp only
  refine wpAny_bind (wpAny_pure (wpAny_bind ?_))
  refine st_specialK F.K (r := none) (by ktn_no "k_ev") ?_
  rw [if_neg (by decide)]
  refine wpAny_bind (wpAny_of_eq (show asStr? (.str rp tr) = pure (some rp) from rfl) ?_)
  dsimp only
  refine wpAny_bind (wpAny_pure ?_)
  rw [if_neg (by decide), hrp, if_pos (by decide)]
  refine wpAny_bind (wpAny_pure (wpAny_bind (wpAny_holding (re_target P ?_))))
  dsimp only
  rw [if_neg (by decide)]
  refine wpAny_bind (st_newList (by simp) ?_)
  have F₁ := F.push1 (g := g) (d := d) (tk := tk) (lsO [] 0)
  refine wpAny_pure ⟨plainId_quiet (by decide +kernel) _, ?_⟩
  refine sub_loop hP hcl hx hN hf hfb (x.cps.size + 1) 0 [] 0 0 false _ _ _ _ (Nat.zero_le _) (by ktn_no "om") (by simp) F₁ (by simpa using hj) fun h' tk' t F' => ?_
  exact hq h' tk' t F'
end

end
section
open PySem.Builtin.Re
noncomputable def find1' (x : Array Nat) (s : Nat) : Option (Nat × Nat) := if s < x.size then find1 x (x.size - s + 1) s else none
theorem find1_b (x : Array Nat) : ∀ k s a b, find1 x k s = some (a, b) → s ≤ a ∧ a < b ∧ b ≤ x.size
  | 0, _, _, _, h => by cases h
  | k + 1, s, a, b, h => by
    unfold find1 at h
    split at h
    · rename_i hh
      cases h
      have : s < x.size := by
        unfold hit1 at hh
        simp only [Bool.and_eq_true, decide_eq_true_eq] at hh
        exact hh.2.1
      (first | lia | omega)
    · split at h
      · have := find1_b x k (s + 1) a b h; (first | lia | omega)
      · cases h
theorem find1'_b (x : Array Nat) (s a b : Nat) (h : find1' x s = some (a, b)) : s ≤ a ∧ a < b ∧ b ≤ x.size := by
  unfold find1' at h
  split at h
  · exact find1_b x _ _ _ _ h
  · cases h
theorem find2_b (x : Array Nat) (s a b : Nat) (h : find2 x s = some (a, b)) : s ≤ a ∧ a < b ∧ b ≤ x.size := by
  unfold find2 at h
  split at h
  · cases q : first2 x (x.size + 1 - s) s with
    | none => rw [q] at h; cases h
    | some t =>
      rw [q] at h
      (refine x0_3 (first2_spec _ _ _ q) ?_; intro c1 c2 c3)
      have h : some (t, end2 x t) = some (a, b) := h
      injection h with h
      injection h with ha hb
      subst ha
      rw [← hb]
      have e : end2 x t = t + 1 ∨ (end2 x t = t + 2 ∧ t + 1 < x.size) := by
        by_cases z : (x.getD t 0 == 13) = true ∧ (t + 1 < x.size ∧ (x.getD (t + 1) 0 == 10) = true)
        · exact .inr ⟨if_pos z, z.2.1⟩
        · exact .inl (if_neg z)
      (first | lia | omega)
  · cases h
noncomputable abbrev crlfS : PySem.Str := Str.ofString "\r\n"
noncomputable abbrev dotsS : PySem.Str := Str.ofString ".."
noncomputable def quote1 (x : PySem.Str) : PySem.Str := Txt.join ⟨#[]⟩ (subGo (find2 x.cps) x crlfS (x.cps.size + 1) 0)
noncomputable def quote2 (x : PySem.Str) : PySem.Str := Txt.join ⟨#[]⟩ (subGo (find1' x.cps) x dotsS (x.cps.size + 1) 0)
noncomputable def QOk (x : PySem.Str) : Prop := x.length ≤ 10000 ∧ JoinOk ⟨#[]⟩ (subGo (find2 x.cps) x crlfS (x.cps.size + 1) 0) = true ∧ (quote1 x).length ≤ 20000 ∧ JoinOk ⟨#[]⟩ (subGo (find1' (quote1 x).cps) (quote1 x) dotsS ((quote1 x).cps.size + 1) 0) = true
section
variable {w : World} {A : Around} {E : Value → Shared → Prop} {h : Heap} {g : Array GenState} {d : Drawn} {tk : Nat} {os : OsState} {x rp : PySem.Str} {tx tr : Tok} {B : Heap} {L : Addr} {m : PySem.Str → Option Value} {cl : List (PySem.Str × Addr)} {cm : PySem.Str → Option Value} {rest : List (Addr × Obj)} {s₀ s : Shared} {d₀ : Drawn} {tk₀ : Nat} {p : Addr} {code : Array Nat} {n : Nat}
theorem pat_method {Q : Value × List Value → Shared → Prop} {pl : Sem Bool} (X : (KF w.params).In h) (P : Pat h p code) (q : Q (.builtin "re.Pattern.sub", [.ref p]) ⟨h, g, d, tk, os⟩) : wpAny (M w) A (getMethod (.ref p) "sub" pl) Q E ⟨h, g, d, tk, os⟩ := by
  (refine x3_4 (P.obj) ?_; intro o vs ct hp hc hd _)
  unfold getMethod
  refine wpAny_bind (st_special hp X (r := some (.builtin "object.__getattribute__")) (by rw [hc]; ktn_no "k_ev") ?_)
  dsimp only
  rw [if_neg (by decide +kernel)]
  refine wpAny_bind (st_special hp X (r := none) (by rw [hc]; ktn_no "k_ev") ?_)
  rw [if_neg (by decide)]
  refine wpAny_bind (st_special hp X (r := some (.builtin "re.Pattern.sub")) (by rw [hc]; ktn_no "k_ev") ?_)
  dsimp only
  refine wpAny_bind (st_typeK X (t := .type "method_descriptor") (by ktn_no "k_ev") ?_)
  rw [if_neg (by decide)]
  refine wpAny_bind (wpAny_loadPart hp ?_)
  rw [hd]
  exact wpAny_bind (wpAny_rule (wpAny_pure q))
theorem quotedata_spec {Q : Value → Shared → Prop} (R : Room (n + 10) A) (F : Fm w B L cl s₀ m cm rest s) (hx : QOk x)
    (hq : ∀ t s', Fm w B L cl s₀ m cm rest s' → Q (.str (quote2 (quote1 x)) t) s') : wpAny (M w) A (call (.ref a_quotedata) [.str x tx] []) Q E s := by
  (refine x0_4 (hx) ?_; try clear hx; intro h1 h2 h3 h4)
  refine call_fn (binds := [("data", .str x tx)]) (fd := fd_quotedata) (cmF := fun _ => none) R F (lk_quotedata _) (cd_quotedata _) rfl (BindsTo.of_eq rfl) (by decide) (by kernel_rfl) (fun _ _ e => (by cases e)) (fun _ _ _ e => (by cases e)) ?_ rfl rfl rfl
  intro Qo hQo L' s₁ hL F₁ R₁
  obtain ⟨h₁, g₁, d₁, k₁, o₁⟩ := s₁
  ktn_no "ast"
  ktn_no "y"
  refine pat_method F₁.K (pat1 F₁.K) ?_
  ktn_no "y"
  refine pat_method F₁.K (pat2 F₁.K) ?_
  ktn_no "y"
  refine re_sub (N := 40) (find := find2 x.cps) (code := code2) (fun h X => pat2 X) R₁.cl (by ktn_no "om") (by decide) (by kernel_rfl) (fun dn must hd => search2_from hd) (fun dn a b => find2_b _ _ _ _) F₁ h2 fun h₂ k₂ t₂ F₂ => ?_
  ktn_no "y"
  refine re_sub (N := 5 * (quote1 x).cps.size + 20) (find := find1' (quote1 x).cps) (code := code1) (x := quote1 x) (fun h X => pat1 X) R₁.cl h3 ?_ (by kernel_rfl) (fun dn must hd => search1_from hd) (fun dn a b => find1'_b _ _ _ _) F₂ h4 fun h₃ k₃ t₃ F₃ => ?_
  · have : (quote1 x).cps.size = (quote1 x).length := rfl
    rw [this]
    exact Nat.le_trans (show _ ≤ 200000 by (first | lia | omega)) (by decide)
  exact hQo _ _ <| Back.of F₃ fun G => hq _ _ G
end

end
section
variable {w : World} {B : Heap} {L : Addr} {m : PySem.Str → Option Value} {cl : List (PySem.Str × Addr)} {cm : PySem.Str → Option Value} {own rest news : List (Addr × Obj)} {s₀ s : Shared} {A : Around} {E : Value → Shared → Prop} {Q : Value → Shared → Prop} {n : Nat}
theorem vf_make {mx : Int} {sc : PySem.Str} {t0 t1 t2 t4 : Tok} (R : Room (n + 20) A) (F : Fm w B L cl s₀ m cm rest s)
    (h : ∀ x own' s', VfP x mx sc [] [] own' → Fm w B L cl s₀ m cm (own' ++ rest) s' → Q (.ref x) s') :
   wpAny (M w) A (call (.ref a_VF) [.int 0 t0, .int mx t1, .str "" t2, .str sc t4] []) Q E s := by
  obtain ⟨h₁, g₁, d₁, k₁, o₁⟩ := s
  refine make_vf F.K ?_
  have F₁ := F.push (dictOf [] 0) (tk := k₁)
  have F₂ := F₁.push (vfO h₁.objs.size) (tk := k₁)
  rw [show (h₁.push (dictOf [] 0)).objs.size = h₁.objs.size + 1 from Heap.size_push _ _] at F₂
  exact vf_init (n := n) (rest := rest) (R.tc.less (by ktn_no "om")) F₂ fun own' s' P G => ⟨rfl, h _ _ _ P G⟩
end
/-- the turns of a list comprehension's clause d -/
noncomputable def CompC (w : World) (A : Around) (e : Expr) (d : Nat) (it acc : Value) (env : Env) (Q : Shared → Prop) (s : Shared) : Prop :=
  codeAny (M w) A (.compLoop e d it acc env) (fun r s' => match r with | .ok _ => Q s' | .error _ => False) s
noncomputable def CompS (w : World) (A : Around) (e : Expr) (d : Nat) (it acc : Value) (env : Env) (Q : Shared → Prop) (s : Shared) : Prop :=
  codeAny (M w) A (.compStart e d it acc env) (fun r s' => match r with | .ok _ => Q s' | .error _ => False) s
noncomputable abbrev ifsOk (env : Env) (ifs : List Expr) : Sem Bool := forIn ifs true fun c r => if r = true then do let ok ← isTrue c env (eval c env); pure (ForInStep.yield ok) else pure (ForInStep.yield r)
section
variable {w : World} {A : Around} {s : Shared} {elt target iter : Expr} {ifs : List Expr} {gens : List Comprehension} {scope : Scope} {pos : Pos} {it acc : Value} {d : Nat} {env : Env} {Q : Shared → Prop}
theorem comp_step (hg : gens[d]? = some ⟨target, iter, ifs, 0⟩) (hn : gens[d + 1]? = none) (h : wpAny (M w) A (pyNext it) (fun r s₁ => match r with
      | none => Q s₁
      | some v => wpAny (M w) A (letOwnedTupleGo target it v) (fun _ s₁' => wpAny (M w) A (assign target env v) (fun _ s₂ => wpAny (M w) A (ifsOk env ifs) (fun ok s₃ =>
          if ok = true then wpAny (M w) A (eval elt env) (fun y s₄ => wpAny (M w) A (call (.builtin "list.append") [acc, y]) (fun _ s₅ => CompC w A (.ListComp elt gens scope pos) d it acc env Q s₅) NoE s₄) NoE s₃
          else CompC w A (.ListComp elt gens scope pos) d it acc env Q s₃) NoE s₂) NoE s₁') NoE s₁) NoE s) : CompC w A (.ListComp elt gens scope pos) d it acc env Q s := by
  unfold CompC
  refine codeAny_of_tree ?_
  rw [Around.under_of_weight rfl]
  show wpAny _ A ((compTurn (.ListComp elt gens scope pos) d it acc env).onRaise (fun x => do noteFrame x env; theTreesLotGoes x)) _ _ s
  refine wpAny_onRaise ?_
  unfold compTurn
  dsimp only
  rw [hg, hn]
  refine wpAny_bind (wpAny_standAt (wpAny_bind (wpAny_mono h (fun r s₁ h₁ => ?_) fun _ _ z => z.elim)))
  cases r with
  | none => exact wpAny_pure h₁
  | some v =>
    refine wpAny_bind (wpAny_mono h₁ (fun _ s₁' h₁' => ?_) fun _ _ z => z.elim)
    refine wpAny_bind (wpAny_mono h₁' (fun _ s₂ h₂ => wpAny_bind (wpAny_mono h₂ (fun ok s₃ h₃ => ?_) fun _ _ z => z.elim)) fun _ _ z => z.elim)
    cases ok with
    | false => exact wpAny_pure ⟨rfl, h₃⟩
    | true =>
      refine wpAny_bind (wpAny_bind (wpAny_mono h₃ (fun y s₄ h₄ => ?_) fun _ _ z => z.elim))
      exact wpAny_bind (wpAny_mono h₄ (fun _ s₅ h₅ => wpAny_pure (wpAny_pure ⟨rfl, h₅⟩)) fun _ _ z => z.elim)
theorem comp_outer {target' iter' : Expr} {ifs' : List Expr} (hg : gens[d]? = some ⟨target, iter, ifs, 0⟩) (hn : gens[d + 1]? = some ⟨target', iter', ifs', 0⟩) (hs : ∀ x, foldedSetIterable iter' env x = pure x)
    (h : wpAny (M w) A (pyNext it) (fun r s₁ => match r with
      | none => Q s₁
      | some v => wpAny (M w) A (letOwnedTupleGo target it v) (fun _ s₁' => wpAny (M w) A (assign target env v) (fun _ s₂ => wpAny (M w) A (ifsOk env ifs) (fun ok s₃ =>
          if ok = true then wpAny (M w) A (eval iter' env) (fun x s₄ => wpAny (M w) A (pyIter x) (fun it' s₅ => CompS w A (.ListComp elt gens scope pos) (d + 1) it' acc env (fun s₆ => CompC w A (.ListComp elt gens scope pos) d it acc env Q s₆) s₅) NoE s₄) NoE s₃
          else CompC w A (.ListComp elt gens scope pos) d it acc env Q s₃) NoE s₂) NoE s₁') NoE s₁) NoE s) : CompC w A (.ListComp elt gens scope pos) d it acc env Q s := by
  unfold CompC
  refine codeAny_of_tree ?_
  rw [Around.under_of_weight rfl]
  show wpAny _ A ((compTurn (.ListComp elt gens scope pos) d it acc env).onRaise (fun x => do noteFrame x env; theTreesLotGoes x)) _ _ s
  refine wpAny_onRaise ?_
  unfold compTurn
  dsimp only
  rw [hg, hn]
  refine wpAny_bind (wpAny_standAt (wpAny_bind (wpAny_mono h (fun r s₁ h₁ => ?_) fun _ _ z => z.elim)))
  cases r with
  | none => exact wpAny_pure h₁
  | some v =>
    refine wpAny_bind (wpAny_mono h₁ (fun _ s₁' h₁' => ?_) fun _ _ z => z.elim)
    refine wpAny_bind (wpAny_mono h₁' (fun _ s₂ h₂ => wpAny_bind (wpAny_mono h₂ (fun ok s₃ h₃ => ?_) fun _ _ z => z.elim)) fun _ _ z => z.elim)
    cases ok with
    | false => exact wpAny_pure ⟨rfl, h₃⟩
    | true =>
      refine wpAny_bind (wpAny_mono h₃ (fun x s₄ h₄ => ?_) fun _ _ z => z.elim)
      refine wpAny_bind (wpAny_standAt ?_)
      dsimp only
      show wpAny _ A (foldedSetIterable iter' env x >>= _) _ _ _
      refine wpAny_bind (wpAny_of_eq (hs x) ?_)
      show wpAny _ A (holding [x] (pyIter x) >>= _) _ _ _
      refine wpAny_bind (wpAny_holding (wpAny_mono h₄ (fun it' s₅ h₅ => ?_) fun _ _ z => z.elim))
      refine wpAny_bind (wpAny_runOwn (codeAny_mono h₅ fun r s₆ h₆ => ?_))
      cases r with
      | ok f => exact wpAny_pure ⟨rfl, h₆⟩
      | error x => exact h₆.elim
theorem comp_start (hg : gens[d]? = some ⟨target, iter, ifs, 0⟩) (h0 : CompC w A (.ListComp elt gens scope pos) d it acc env Q s)
    (h : wpAny (M w) A (pyIter it) (fun it' s' => CompC w A (.ListComp elt gens scope pos) d it' acc env Q s') NoE s) : CompS w A (.ListComp elt gens scope pos) d it acc env Q s := by
  unfold CompS
  refine codeAny_of_tree ?_
  rw [Around.under_of_weight rfl]
  show wpAny _ A ((compStart (.ListComp elt gens scope pos) d it acc env).onRaise (fun x => do noteFrame x env; standAt theWindowsPlace)) _ _ s
  refine wpAny_onRaise ?_
  unfold compStart
  show wpAny _ _ (if (gens[d]?.elim false fun x => x.is_async != 0) = true then _ else _) _ _ s
  rw [hg]
  rw [if_neg (show ¬ ((some (Comprehension.mk target iter ifs 0)).elim false fun x => x.is_async != 0) = true from Bool.false_ne_true)]
  refine wpAny_bind (wpAny_askSetting (wpAny_ite ?_))
  split
  · exact wpAny_bind (wpAny_pure (wpAny_pure (And.intro rfl h0)))
  · refine wpAny_bind (wpAny_rule ?_)
    dsimp only [clausesOf]
    rw [hg]
    exact wpAny_bind (wpAny_standAt (wpAny_bind (wpAny_mono h (fun it' s' h' => wpAny_pure (And.intro rfl h')) fun _ _ z => z.elim)))
end
/-- the end of a comprehension's loop, in its own frame -/
noncomputable def LcB (w : World) (B : Heap) (L : Addr) (m : PySem.Str → Option Value) (cl : List (PySem.Str × Addr)) (cm : PySem.Str → Option Value) (news : List (Addr × Obj)) (s₀ s : Shared) (C : Addr) (Q : Shared → Prop) (s' : Shared) : Prop :=
  ∃ m' cl' cm' news', Fm w (under s news) C cl' s m' cm' news' s' ∧ ∀ s'', Fm w B L cl s₀ m cm news' s'' → Q s''
section
variable {w : World} {B : Heap} {L : Addr} {m : PySem.Str → Option Value} {cl : List (PySem.Str × Addr)} {cm : PySem.Str → Option Value} {news : List (Addr × Obj)} {s₀ s : Shared} {A : Around} {E : Value → Shared → Prop}
theorem Fm.leaveC (F : Fm w B L cl s₀ m cm news s) {C : Addr} {m' cm' : PySem.Str → Option Value} {cl' : List (PySem.Str × Addr)} {news' : List (Addr × Obj)} {s' : Shared} (G : Fm w (under s news) C cl' s m' cm' news' s') :
    ∃ oC, NsO oC m' ∧ Fm w B L cl s₀ m cm ((C, oC) :: news') s' := by
  have H := F.leave G
  (refine x1_2 (ns_of G.ns) ?_; intro oC hC hN)
  refine ⟨oC, hN, ?_⟩
  (refine x1_2 (ns_of F.ns) ?_; intro oL hL _)
  have kL := F.under_L hL
  have big := G.above.2
  exact { H with
    nw := fun p hp => by
      rcases List.mem_cons.mp hp with rfl | hp
      · refine ⟨hC, fun e => ?_, ?_, big⟩
        · have := G.above.1
          have e : C = L := e
          rw [e, kL] at this; cases this
        · cases q : B.get? C with
          | none => rfl
          | some o => have := G.above.1; rw [F.under_keep _ _ q] at this; cases this
      · exact H.nw p hp
    nd := List.nodup_cons.mpr ⟨fun q => by
      (refine x1_2 (List.mem_map.mp q) ?_; intro p hp e)
      exact (G.nw p hp).2.1 e, H.nd⟩
    cd := fun n c e => by
      (refine x0_3 (H.cd n c e) ?_; intro a b c')
      refine ⟨a, fun q => ?_, c'⟩
      rcases List.mem_cons.mp q with q | q
      · (refine x1_2 (F.ce n c e) ?_; intro oc hoc _)
        have h1 := F.under_cell e hoc
        have := G.above.1
        have q : c = C := q
        rw [← q, h1] at this; cases this
      · exact b q }
theorem LcB.out (F : Fm w B L cl s₀ m cm news s) {C : Addr} {Q : Shared → Prop} {s' : Shared} (h : LcB w B L m cl cm news s₀ s C Q s') :
    ∃ m', s'.heap.Ns C m' ∧ ∀ h', Heap.SameBut C s'.heap h' → Q { s' with heap := h' } := by
  (refine x4_2 (h) ?_; try clear h; intro m' cl' cm' news' G k)
  (refine x1_2 (F.leaveC G) ?_; intro oC hN H)
  exact ⟨m', G.ns, fun h' hs => k _ (H.lose (tk := s'.toks) fun b ob hb e => (hs.2 b hb).trans e)⟩
theorem lc_frame {scope : Scope} {env : Env} {cl' : List (PySem.Str × Addr)} {P : Env → Shared → Prop} (F : Fm w B L cl s₀ m cm news s)
    (hcell : ∀ x ∈ scope.names, x.2 ≠ .cell) (hkind : scope.kind = .function) (hcl : ∀ n c, cl'.lookup n = some c → cl.lookup n = some c)
    (h : ∀ C s₁, s₁.heap.objs.size > s.heap.objs.size → Fm w (under s news) C cl' s (fun _ => none) cm news s₁ → P (newEnv scope C env.globals cl' env.qual none .none (some env) builtinsNs) s₁) :
    wpAny (M w) A (newFunctionEnv scope env.globals cl' [] env.qual none .none (some env)) P E s := by
  refine wpAny_newFunctionEnv (builtins := builtinsNs) hcell (by intro y hy; simp at hy) (fun h₁ hns hsb => ?_) hkind
  have hk : ∀ b o, s.heap.get? b = some o → h₁.get? b = some o := fun b o e => hsb.extBut b o (fun q => absurd (Heap.lt_size e) (by rw [q]; exact Nat.lt_irrefl _)) (Heap.get?_push_of_some _ e)
  exact h s.heap.objs.size _ hns.lt (F.enter rfl hns hk (Nat.le_of_lt hns.lt) (fun n c e => (F.ce n c (hcl n c e)).keeps hk) (fun n c e => by
    (refine x0_3 (F.cd n c (hcl n c e)) ?_; intro a b c')
    (refine x1_2 (F.ce n c (hcl n c e)) ?_; intro oc hoc _)
    exact ⟨Nat.ne_of_lt (Heap.lt_size hoc), b, c'⟩) fun n n' c e e' => F.cp n n' c (hcl _ _ e) (hcl _ _ e'))
variable {elt target iter : Expr} {ifs : List Expr} {rest : List Comprehension} {scope : Scope} {pos : Pos} {env : Env} {cl' : List (PySem.Str × Addr)} {Q : Value → Shared → Prop}
theorem list_comp (hclos : closureFor scope env = pure cl') (hcell : (scope.names.all fun x => decide (x.2 ≠ .cell)) = true) (hkind : scope.kind = .function)
    (hnames : (scope.names.all fun x => decide (x.2 = .local → scope.names.lookup x.1 = some .local)) = true) (hs : ∀ x, foldedSetIterable iter env x = pure x)
    (hcl : ∀ n c, cl'.lookup n = some c → cl.lookup n = some c)
    (h : wpAny (M w) A (eval iter env) (fun x s₁ => wpAny (M w) A (pyIter x) (fun it s₂ => ∃ news, Fm w B L cl s₀ m cm news s₂ ∧
      ∀ D C s₃ s₄, s₃.heap.objs.size > D → Fm w B L cl s₀ m cm ((D, lsO [] 0) :: news) s₃ → Fm w (under s₃ ((D, lsO [] 0) :: news)) C cl' s₃ (fun _ => none) cm ((D, lsO [] 0) :: news) s₄ →
        CompS w A (.ListComp elt (⟨target, iter, ifs, 0⟩ :: rest) scope pos) 0 it (.ref D) (compEnvC scope cl' C env) (LcB w B L m cl cm ((D, lsO [] 0) :: news) s₀ s₃ C (Q (.ref D))) s₄) NoE s₁) NoE s) :
    wpAny (M w) A (eval (.ListComp elt (⟨target, iter, ifs, 0⟩ :: rest) scope pos) env) Q NoE s := by
  rw [eval_ListComp]
  refine wpAny_comprehension_free (use := none) rfl hs hclos hkind (fun x hx => of_decide_eq_true (List.all_eq_true.mp hnames x hx)) (wpAny_mono h (fun xv s₁ h₁ => wpAny_mono h₁ (fun it s₂ h₂ => ?_) fun _ _ e => e) fun _ _ e => e)
  (refine x1_2 (h₂) ?_; try clear h₂; intro news F k)
  have F' := F.push (lsO [] 0) (tk := s₂.toks)
  refine wpAny_newObj_type ?_
  refine lc_frame (env := env) F' (fun x hx => of_decide_eq_true (List.all_eq_true.mp hcell x hx)) hkind hcl fun C s₄ hz G => ?_
  refine codeAny_mono (k _ C _ s₄ (by show _ > _; rw [Heap.size_push]; exact Nat.lt_succ_self _) F' G) fun r s' hr => ?_
  cases r with
  | error x => exact hr.elim
  | ok f => exact hr.out F'
end
section
variable {w : World} {B : Heap} {L : Addr} {m : PySem.Str → Option Value} {cl : List (PySem.Str × Addr)} {cm : PySem.Str → Option Value} {news : List (Addr × Obj)} {s₀ s : Shared} {A : Around} {E : Value → Shared → Prop}
variable {elt target iter : Expr} {ifs : List Expr} {rest : List Comprehension} {scope : Scope} {pos py spos : Pos} {env : Env} {cl' : List (PySem.Str × Addr)} {y : PySem.Str} {Q : Flow → Shared → Prop}
theorem list_comp_to (hsw : swapsWith (.ListComp elt (⟨target, iter, ifs, 0⟩ :: rest) scope pos) (some (.Name y py)) spos.line env = pure true)
    (hclos : closureFor scope env = pure cl') (hcell : (scope.names.all fun x => decide (x.2 ≠ .cell)) = true) (hkind : scope.kind = .function)
    (hnames : (scope.names.all fun x => decide (x.2 = .local → scope.names.lookup x.1 = some .local)) = true) (hs : ∀ x, foldedSetIterable iter env x = pure x)
    (hcl : ∀ n c, cl'.lookup n = some c → cl.lookup n = some c) (hk : env.scope.kind = .function) (hy : env.kindOf y = some .local) (hL : env.locals = L)
    (h : wpAny (M w) A (eval iter env) (fun x s₁ => wpAny (M w) A (pyIter x) (fun it s₂ => ∃ news, Fm w B L cl s₀ m cm news s₂ ∧
      ∀ D C s₃ s₄, s₃.heap.objs.size > D → Fm w B L cl s₀ m cm ((D, lsO [] 0) :: news) s₃ → Fm w (under s₃ ((D, lsO [] 0) :: news)) C cl' s₃ (fun _ => none) cm ((D, lsO [] 0) :: news) s₄ →
        CompS w A (.ListComp elt (⟨target, iter, ifs, 0⟩ :: rest) scope pos) 0 it (.ref D) (compEnvC scope cl' C env) (fun s₅ => ∃ m' cl' cm' news', Fm w (under s₃ ((D, lsO [] 0) :: news)) C cl' s₃ m' cm' news' s₅ ∧ ∀ s'', Fm w B L cl s₀ (upd m y (.ref D)) cm news' s'' → Q .next s'') s₄) NoE s₁) NoE s) :
    wpAny (M w) A (exec (.Assign [.Name y py] (.ListComp elt (⟨target, iter, ifs, 0⟩ :: rest) scope pos) spos) env) Q NoE s := by
  rw [exec_Assign_Name_used _ _ _ _ hsw]
  refine wpAny_bind (wpAny_standAt (wpAny_bind ?_))
  show wpAny _ A (do let _ ← comprehension (.ListComp elt (⟨target, iter, ifs, 0⟩ :: rest) scope pos) scope env _ (newList []) false (eval iter env) (some (assign (.Name y py) env))) _ _ s
  refine wpAny_bind (wpAny_mono (wpAny_comprehension_free (use := some (assign (.Name y py) env)) (Q := fun _ s' => Q .next s') rfl hs hclos hkind (fun x hx => of_decide_eq_true (List.all_eq_true.mp hnames x hx))
    (wpAny_mono h (fun xv s₁ h₁ => wpAny_mono h₁ (fun it s₂ h₂ => ?_) fun _ _ e => e) fun _ _ e => e)) (fun _ s' hq => wpAny_pure (wpAny_pure hq)) fun _ _ e => e)
  (refine x1_2 (h₂) ?_; try clear h₂; intro news F k)
  have F' := F.push (lsO [] 0) (tk := s₂.toks)
  refine wpAny_newObj_type ?_
  refine lc_frame (env := env) F' (fun x hx => of_decide_eq_true (List.all_eq_true.mp hcell x hx)) hkind hcl fun C s₄ hz G => ?_
  refine codeAny_mono (k _ C _ s₄ (by show _ > _; rw [Heap.size_push]; exact Nat.lt_succ_self _) F' G) fun r s' hr => ?_
  cases r with
  | error x => exact hr.elim
  | ok f =>
    (refine x4_2 (hr) ?_; try clear hr; intro m' cl₁ cm' news' G' kk)
    (refine x1_2 (F'.leaveC G') ?_; intro oC hN H)
    show wpAny _ A (assign (.Name y py) env (.ref s₂.heap.objs.size)) _ _ _
    obtain ⟨h', g', d', tk', os'⟩ := s'
    refine wpAny_assign_Name (st_L H hk hy hL fun h₂ H₂ => ?_)
    refine ⟨m', hN.at (H₂.at 0 rfl), fun h'' hs'' => kk _ (H₂.lose (tk := tk' + 1) fun b ob hb e => (hs''.2 b hb).trans e)⟩
end
/-- the frame's own cells may be stored -/
noncomputable def OwnC (B : Heap) (cl : List (PySem.Str × Addr)) : Prop := ∀ n c, cl.lookup n = some c → B.get? c = none ∧ szTop ≤ c
section
variable {w : World} {B : Heap} {L : Addr} {m : PySem.Str → Option Value} {cl : List (PySem.Str × Addr)} {cm : PySem.Str → Option Value} {news : List (Addr × Obj)} {s₀ s : Shared} {A : Around} {E : Value → Shared → Prop} {Q : Value → Shared → Prop}
theorem call_fn_cells {n : Nat} {f : Addr} {oc : Value} {od : Option Addr} {osl : Array (Option Value)} {fd : FuncData} {body : List Stmt} {vals : List Value} {binds : List (PySem.Str × Value)}
    (R : Room (n + 1) A) (F : Fm w B L cl s₀ m cm news s)
    (ho : (KF w.params).lookup f = some ⟨oc, od, .func fd, osl⟩) (hcd : codeIn (KF w.params) fd.code fd.qualname = true) (hbody : fd.body = .stmts body) (hbind : bindArgs fd ⟨vals, []⟩ = pure binds) (hclo : fd.closure = [])
    (hkind : ∀ z, binds.all (fun x => decide (fd.scope.names.lookup x.1 = some .local) || (decide (fd.scope.names.lookup x.1 = some .cell) && ((cellsFrom z fd.scope.names []).lookup x.1).isSome)) = true)
    (h : ∀ Qo : Flow → Shared → Prop, (∀ fl s', Back w B L m cl cm news s₀ s Q (retV fl) s' → Qo fl s') → ∀ L' s₁, L' = s.heap.objs.size → Fm w (under s news) L' (callEnvC fd L' f).cells s (bindL (callEnvC fd L' f).kindOf binds fun _ => none) (bindC (callEnvC fd L' f).kindOf binds fun _ => none) news s₁ → OwnC (under s news) (callEnvC fd L' f).cells → Room n (A.deeper (callEnvC fd L' f)) →
      wpAny (M w) (A.deeper (callEnvC fd L' f)) (execs body (callEnvC fd L' f)) Qo (fun _ _ => False) s₁)
    (hco : fd.scope.isCoroutine = false) (hgen : fd.scope.isGenerator = false) (hk : fd.scope.kind = .function) : wpAny (M w) A (call (.ref f) vals []) Q E s := by
  have X := F.K
  refine wpAny_call (codeAny_call_cells (fd := fd) (body := body) (binds := binds) R.lt (X _ _ ho) rfl (F.wf.nl.keeps F.keep) (codeRec_of X hcd) hbody hbind hclo (fun x hx => ?_) (fun s₁ I => ?_) hco hgen hk)
  · have := List.all_eq_true.mp (hkind (s.heap.objs.size + 1)) x hx
    rw [Bool.or_eq_true, Bool.and_eq_true, decide_eq_true_eq, decide_eq_true_eq] at this
    exact this
  have IC := I.toInCall
  (refine x2_1 (IC.same) ?_; intro h₁ tk eqX2; subst eqX2)
  have hz : s.heap.objs.size < h₁.objs.size := IC.ns.lt
  have hnone : ∀ c, s.heap.objs.size < c → (under s news).get? c = none := fun c hc => by
    cases q : (under s news).get? c with
    | none => rfl
    | some o => exact absurd (Heap.lt_size q) (by show ¬ c < (hideAll s.heap _).objs.size; rw [hideAll_size]; (first | lia | omega))
  have hab : ∀ n c, (callEnvC fd s.heap.objs.size f).cells.lookup n = some c → s.heap.objs.size < c := fun n c e => I.above n c (mem_of_lookup e)
  have hT : szTop ≤ s.heap.objs.size := Nat.le_trans F.szL (Nat.le_of_lt F.ns.lt)
  refine wpAny_mono (h _ (fun _ _ x => x) s.heap.objs.size _ rfl (F.enter (tk := tk) rfl IC.ns IC.keep (Nat.le_of_lt hz) I.cell (fun n c e => ?_) fun n n' c e e' => name_of_addr I.apart (mem_of_lookup e) (mem_of_lookup e')) (fun n c e => ⟨hnone c (hab n c e), Nat.le_trans hT (Nat.le_of_lt (hab n c e))⟩) R.deeper) (fun fl s' hb => ?_) (fun _ _ x => x.elim)
  · have hc := hab n c e
    refine ⟨Nat.ne_of_gt hc, fun q => ?_, fun t => absurd (tab_lt t) (Nat.not_lt.mpr (Nat.le_trans hT (Nat.le_of_lt hc)))⟩
    (refine x1_2 (List.mem_map.mp q) ?_; intro p hp e')
    have := Heap.lt_size (F.nw p hp).1
    rw [e'] at this
    exact Nat.lt_asymm this hc
  · cases fl <;> exact hb.go F
end
local macro_rules | `(tactic| ktn_no "x2") => `(tactic| first
  | ktn_no "y1"
  | (with_reducible refine st_C (by assumption) ?a1 ?a2 ?a3 ?a4 ?a5 ?a6 (fun _ _ => ?_); (case a1 => kernel_rfl); (case a2 => kernel_rfl!); (case a3 => kernel_rfl); (case a4 => kernel_rfl); (case a5 => exact (by assumption : OwnC _ _) _ _ (by kernel_rfl) |>.1); (case a6 => exact (by assumption : OwnC _ _) _ _ (by kernel_rfl) |>.2)))
local macro_rules | `(tactic| ktn_no "z") => `(tactic| repeat ktn_no "x2")
noncomputable def captStep (cells : List (PySem.Str × Addr)) (cs : List (PySem.Str × Addr)) (x : PySem.Str × NameKind) : List (PySem.Str × Addr) := if x.2 == .free then (x.1, (cells.lookup x.1).getD 0) :: cs else cs
/-- the cells that a comprehension takes over -/
noncomputable def capt (scope : Scope) (cells : List (PySem.Str × Addr)) : List (PySem.Str × Addr) := scope.names.foldl (captStep cells) []
noncomputable def captOk (scope : Scope) (cells : List (PySem.Str × Addr)) : Bool := scope.names.all fun x => !(x.2 == .free) || (cells.lookup x.1).isSome
theorem capt_run (env : Env) (f : PySem.Str × NameKind → List (PySem.Str × Addr) → Sem (ForInStep (List (PySem.Str × Addr))))
    (hf : ∀ n k cs, f (n, k) cs = if k == .free then (do let c ← cellOf env n; pure (.yield ((n, c) :: cs))) else pure (.yield cs)) :
    ∀ (names : List (PySem.Str × NameKind)) (acc : List (PySem.Str × Addr)), (names.all fun x => !(x.2 == .free) || (env.cells.lookup x.1).isSome) = true → forIn names acc f = pure (names.foldl (captStep env.cells) acc)
  | [], acc, _ => rfl
  | (n, k) :: names, acc, h => by
    rw [List.all_cons, Bool.and_eq_true] at h
    rw [List.forIn_cons, hf, List.foldl_cons]
    by_cases hk : (k == .free) = true
    · rw [if_pos hk]
      have h1 := h.1
      simp only [hk, Bool.not_true, Bool.false_or] at h1
      obtain ⟨c, hc⟩ := Option.isSome_iff_exists.mp h1
      have e : cellOf env n = pure c := by unfold cellOf; rw [hc]
      rw [e]
      show forIn names ((n, c) :: acc) f = _
      rw [capt_run env f hf names _ h.2]
      unfold captStep
      rw [if_pos hk, hc]; rfl
    · rw [if_neg hk]
      show forIn names acc f = _
      rw [capt_run env f hf names _ h.2]
      unfold captStep
      rw [if_neg hk]
theorem capt_clos {scope : Scope} {env : Env} (h : captOk scope env.cells = true) : closureFor scope env = pure (capt scope env.cells) := by
  unfold closureFor capt
  show (forIn scope.names [] _ >>= _) = _
  rw [capt_run env _ (fun n k cs => ?_) scope.names [] h]
  · rfl
  · by_cases hk : (k == .free) = true
    · simp only [hk]
    · simp only [hk]
theorem capt_mem (cells : List (PySem.Str × Addr)) : ∀ (names : List (PySem.Str × NameKind)) (acc : List (PySem.Str × Addr)), (names.all fun x => !(x.2 == .free) || (cells.lookup x.1).isSome) = true → (∀ n c, acc.lookup n = some c → cells.lookup n = some c) →
    ∀ n c, (names.foldl (captStep cells) acc).lookup n = some c → cells.lookup n = some c
  | [], acc, _, h => h
  | (x, k) :: names, acc, hn, h => by
    rw [List.all_cons, Bool.and_eq_true] at hn
    rw [List.foldl_cons]
    refine capt_mem cells names _ hn.2 fun n c e => ?_
    unfold captStep at e
    split at e
    · rename_i hk
      have h1 := hn.1
      simp only [hk, Bool.not_true, Bool.false_or] at h1
      obtain ⟨c', hc⟩ := Option.isSome_iff_exists.mp h1
      rw [List.lookup_cons] at e
      dsimp only at e
      rw [hc] at e
      cases hb : n == x with
      | true => rw [hb] at e; dsimp only at e; cases e; rw [beq_iff_eq.mp hb]; exact hc
      | false => rw [hb] at e; exact h n c e
    · exact h n c e
theorem capt_sub {scope : Scope} {cells : List (PySem.Str × Addr)} (h : captOk scope cells = true) : ∀ n c, (capt scope cells).lookup n = some c → cells.lookup n = some c :=
  capt_mem cells scope.names [] h fun n c e => by simp at e
section
variable {w : World} {B : Heap} {L : Addr} {m : PySem.Str → Option Value} {cl : List (PySem.Str × Addr)} {cm : PySem.Str → Option Value} {news : List (Addr × Obj)} {s₀ s : Shared} {A : Around}
variable {elt target iter : Expr} {ifs : List Expr} {rest : List Comprehension} {scope : Scope} {pos py spos : Pos} {env : Env}
/-- a list comprehension in a frame with cells -/
theorem list_compC {Q : Value → Shared → Prop} (hk : captOk scope env.cells = true) (hL : env.cells = cl) (hcell : (scope.names.all fun x => decide (x.2 ≠ .cell)) = true) (hkind : scope.kind = .function)
    (hnames : (scope.names.all fun x => decide (x.2 = .local → scope.names.lookup x.1 = some .local)) = true) (hs : ∀ x, foldedSetIterable iter env x = pure x)
    (h : wpAny (M w) A (eval iter env) (fun x s₁ => wpAny (M w) A (pyIter x) (fun it s₂ => ∃ news, Fm w B L cl s₀ m cm news s₂ ∧
      ∀ D C s₃ s₄, s₃.heap.objs.size > D → Fm w B L cl s₀ m cm ((D, lsO [] 0) :: news) s₃ → Fm w (under s₃ ((D, lsO [] 0) :: news)) C (capt scope env.cells) s₃ (fun _ => none) cm ((D, lsO [] 0) :: news) s₄ →
        CompS w A (.ListComp elt (⟨target, iter, ifs, 0⟩ :: rest) scope pos) 0 it (.ref D) (compEnvC scope (capt scope env.cells) C env) (LcB w B L m cl cm ((D, lsO [] 0) :: news) s₀ s₃ C (Q (.ref D))) s₄) NoE s₁) NoE s) :
    wpAny (M w) A (eval (.ListComp elt (⟨target, iter, ifs, 0⟩ :: rest) scope pos) env) Q NoE s :=
  list_comp (capt_clos hk) hcell hkind hnames hs (by subst hL; exact capt_sub hk) h
theorem list_comp_toC {y : PySem.Str} {Q : Flow → Shared → Prop} (hsw : swapsWith (.ListComp elt (⟨target, iter, ifs, 0⟩ :: rest) scope pos) (some (.Name y py)) spos.line env = pure true)
    (hkc : captOk scope env.cells = true) (hLc : env.cells = cl) (hcell : (scope.names.all fun x => decide (x.2 ≠ .cell)) = true) (hkind : scope.kind = .function)
    (hnames : (scope.names.all fun x => decide (x.2 = .local → scope.names.lookup x.1 = some .local)) = true) (hs : ∀ x, foldedSetIterable iter env x = pure x)
    (hk : env.scope.kind = .function) (hy : env.kindOf y = some .local) (hL : env.locals = L)
    (h : wpAny (M w) A (eval iter env) (fun x s₁ => wpAny (M w) A (pyIter x) (fun it s₂ => ∃ news, Fm w B L cl s₀ m cm news s₂ ∧
      ∀ D C s₃ s₄, s₃.heap.objs.size > D → Fm w B L cl s₀ m cm ((D, lsO [] 0) :: news) s₃ → Fm w (under s₃ ((D, lsO [] 0) :: news)) C (capt scope env.cells) s₃ (fun _ => none) cm ((D, lsO [] 0) :: news) s₄ →
        CompS w A (.ListComp elt (⟨target, iter, ifs, 0⟩ :: rest) scope pos) 0 it (.ref D) (compEnvC scope (capt scope env.cells) C env) (fun s₅ => ∃ m' cl' cm' news', Fm w (under s₃ ((D, lsO [] 0) :: news)) C cl' s₃ m' cm' news' s₅ ∧ ∀ s'', Fm w B L cl s₀ (upd m y (.ref D)) cm news' s'' → Q .next s'') s₄) NoE s₁) NoE s) :
    wpAny (M w) A (exec (.Assign [.Name y py] (.ListComp elt (⟨target, iter, ifs, 0⟩ :: rest) scope pos) spos) env) Q NoE s :=
  list_comp_to hsw (capt_clos hkc) hcell hkind hnames hs (by subst hLc; exact capt_sub hkc) hk hy hL h
end
/-- an iterator object gives itself -/
noncomputable def SelfI (w : World) (I : Addr) (Ob : Nat → Obj → Prop) : Prop := ∀ (A : Around) (o : Obj) (s : Shared) (Q : Value → Shared → Prop), Ob 0 o → s.heap.get? I = some o → Q (.ref I) s → wpAny (M w) A (pyIter (.ref I)) Q NoE s
theorem self_range {w : World} (I : Addr) (a c : Int) (n : Nat) : SelfI w I (fun i o => o = ⟨.type "range_iterator", none, .fields #[rawInt (a + (i : Nat) * c), rawInt ((n : Int) - (i : Nat)), rawInt c], #[]⟩) :=
  fun _ o _ _ ho hI q => by subst ho; exact wpAny_pyIter_rangeiter hI q
theorem self_str {w : World} (I : Addr) (x : PySem.Str) (t : Tok) : SelfI w I (fun i o => o.cls = .type "str_ascii_iterator" ∧ o.data = .fields #[.str x t, .int i 0]) :=
  fun _ o _ _ ho hI q => wpAny_pyIter_striter_ascii ⟨o, hI, ho⟩ q
theorem self_seq {w : World} (I x : Addr) : SelfI w I (fun i o => o = itO x i) :=
  fun _ o _ _ ho hI q => by subst ho; exact wpAny_pyIter_listiter (it := I) (l := x) (i := 0) ⟨_, hI, rfl, rfl⟩ q
section
variable {w : World} {B : Heap} {C I : Addr} {cl : List (PySem.Str × Addr)} {s₀ : Shared} {A : Around} {n : Nat} {P : Nat → Value → Prop} {Ob : Nat → Obj → Prop} {Sd : Heap → Prop}
  {elt target iter : Expr} {ifs : List Expr} {gens : List Comprehension} {scope : Scope} {pos : Pos} {acc : Value} {d : Nat} {env : Env} {Q : Shared → Prop}
theorem comp_run (S : Steps w I n P Ob Sd) (hg : gens[d]? = some ⟨target, iter, ifs, 0⟩) (hn : gens[d + 1]? = none) (hh : A.handled = none)
    (Inv : Nat → (PySem.Str → Option Value) → (PySem.Str → Option Value) → List (Addr × Obj) → Prop)
    (hSd : ∀ i m cm news s o, Inv i m cm news → Fm w B C cl s₀ m cm ((I, o) :: news) s → Sd s.heap)
    (body : ∀ i v m cm news o s (K : Shared → Prop), i < n → P i v → Inv i m cm news → Fm w B C cl s₀ m cm ((I, o) :: news) s →
      (∀ m' cm' news' s', Inv (i + 1) m' cm' news' → Fm w B C cl s₀ m' cm' ((I, o) :: news') s' → K s') →
      wpAny (M w) A (letOwnedTupleGo target (.ref I) v) (fun _ s₁' => wpAny (M w) A (assign target env v) (fun _ s₂ => wpAny (M w) A (ifsOk env ifs) (fun ok s₃ =>
          if ok = true then wpAny (M w) A (eval elt env) (fun y s₄ => wpAny (M w) A (call (.builtin "list.append") [acc, y]) (fun _ s₅ => K s₅) NoE s₄) NoE s₃
          else K s₃) NoE s₂) NoE s₁') NoE s) :
    ∀ (k i : Nat) (m cm : PySem.Str → Option Value) (news : List (Addr × Obj)) (o : Obj) (s : Shared), i + k = n → Ob i o → Inv i m cm news → Fm w B C cl s₀ m cm ((I, o) :: news) s →
      (∀ m' cm' news' s', Inv n m' cm' news' → Fm w B C cl s₀ m' cm' news' s' → Q s') → CompC w A (.ListComp elt gens scope pos) d (.ref I) acc env Q s
  | 0, i, m, cm, news, o, s, hi, ho, hv, F, hq => by
    refine comp_step hg hn ?_
    have hs := hSd _ _ _ _ _ _ hv F
    obtain ⟨h, g, dd, tk, os⟩ := s
    refine F.endI S hh (by ktn_no "om") ho hs fun h' tk' F' => ?_
    exact hq _ _ _ _ (by rw [← hi]; exact hv) F'
  | k + 1, i, m, cm, news, o, s, hi, ho, hv, F, hq => by
    refine comp_step hg hn ?_
    have hs := hSd _ _ _ _ _ _ hv F
    obtain ⟨h, g, dd, tk, os⟩ := s
    refine F.nextI S (by ktn_no "om") ho hs fun v h' tk' o' hP ho' F' => ?_
    refine body i v m cm news o' _ _ (by ktn_no "om") hP hv F' fun m' cm' news' s' hv' F'' => ?_
    exact comp_run S hg hn hh Inv hSd body k (i + 1) m' cm' news' o' s' (by ktn_no "om") ho' hv' F'' hq
theorem comp_run2 {target' iter' : Expr} {ifs' : List Expr} (S : Steps w I n P Ob Sd) (hg : gens[d]? = some ⟨target, iter, ifs, 0⟩) (hn : gens[d + 1]? = some ⟨target', iter', ifs', 0⟩) (hf : ∀ x, foldedSetIterable iter' env x = pure x) (hh : A.handled = none)
    (Inv : Nat → (PySem.Str → Option Value) → (PySem.Str → Option Value) → List (Addr × Obj) → Prop)
    (hSd : ∀ i m cm news s o, Inv i m cm news → Fm w B C cl s₀ m cm ((I, o) :: news) s → Sd s.heap)
    (body : ∀ i v m cm news o s (K : Shared → Prop), i < n → P i v → Inv i m cm news → Fm w B C cl s₀ m cm ((I, o) :: news) s →
      (∀ m' cm' news' s', Inv (i + 1) m' cm' news' → Fm w B C cl s₀ m' cm' ((I, o) :: news') s' → K s') →
      wpAny (M w) A (letOwnedTupleGo target (.ref I) v) (fun _ s₁' => wpAny (M w) A (assign target env v) (fun _ s₂ => wpAny (M w) A (ifsOk env ifs) (fun ok s₃ =>
          if ok = true then wpAny (M w) A (eval iter' env) (fun x s₄ => wpAny (M w) A (pyIter x) (fun it' s₅ => CompS w A (.ListComp elt gens scope pos) (d + 1) it' acc env K s₅) NoE s₄) NoE s₃
          else K s₃) NoE s₂) NoE s₁') NoE s) :
    ∀ (k i : Nat) (m cm : PySem.Str → Option Value) (news : List (Addr × Obj)) (o : Obj) (s : Shared), i + k = n → Ob i o → Inv i m cm news → Fm w B C cl s₀ m cm ((I, o) :: news) s →
      (∀ m' cm' news' s', Inv n m' cm' news' → Fm w B C cl s₀ m' cm' news' s' → Q s') → CompC w A (.ListComp elt gens scope pos) d (.ref I) acc env Q s
  | 0, i, m, cm, news, o, s, hi, ho, hv, F, hq => by
    refine comp_outer hg hn hf ?_
    have hs := hSd _ _ _ _ _ _ hv F
    obtain ⟨h, g, dd, tk, os⟩ := s
    refine F.endI S hh (by ktn_no "om") ho hs fun h' tk' F' => ?_
    exact hq _ _ _ _ (by rw [← hi]; exact hv) F'
  | k + 1, i, m, cm, news, o, s, hi, ho, hv, F, hq => by
    refine comp_outer hg hn hf ?_
    have hs := hSd _ _ _ _ _ _ hv F
    obtain ⟨h, g, dd, tk, os⟩ := s
    refine F.nextI S (by ktn_no "om") ho hs fun v h' tk' o' hP ho' F' => ?_
    refine body i v m cm news o' _ _ (by ktn_no "om") hP hv F' fun m' cm' news' s' hv' F'' => ?_
    exact comp_run2 S hg hn hf hh Inv hSd body k (i + 1) m' cm' news' o' s' (by ktn_no "om") ho' hv' F'' hq
/-- from the start on -/
theorem comp_all (S : Steps w I n P Ob Sd) (self : SelfI w I Ob) (hg : gens[d]? = some ⟨target, iter, ifs, 0⟩) (hn : gens[d + 1]? = none) (hh : A.handled = none)
    (Inv : Nat → (PySem.Str → Option Value) → (PySem.Str → Option Value) → List (Addr × Obj) → Prop)
    (hSd : ∀ i m cm news s o, Inv i m cm news → Fm w B C cl s₀ m cm ((I, o) :: news) s → Sd s.heap)
    {m cm : PySem.Str → Option Value} {news : List (Addr × Obj)} {o : Obj} {s : Shared} (ho : Ob 0 o) (hv : Inv 0 m cm news) (F : Fm w B C cl s₀ m cm ((I, o) :: news) s)
    (body : ∀ i v m cm news o s (K : Shared → Prop), i < n → P i v → Inv i m cm news → Fm w B C cl s₀ m cm ((I, o) :: news) s →
      (∀ m' cm' news' s', Inv (i + 1) m' cm' news' → Fm w B C cl s₀ m' cm' ((I, o) :: news') s' → K s') →
      wpAny (M w) A (letOwnedTupleGo target (.ref I) v) (fun _ s₁' => wpAny (M w) A (assign target env v) (fun _ s₂ => wpAny (M w) A (ifsOk env ifs) (fun ok s₃ =>
          if ok = true then wpAny (M w) A (eval elt env) (fun y s₄ => wpAny (M w) A (call (.builtin "list.append") [acc, y]) (fun _ s₅ => K s₅) NoE s₄) NoE s₃
          else K s₃) NoE s₂) NoE s₁') NoE s)
    (hq : ∀ m' cm' news' s', Inv n m' cm' news' → Fm w B C cl s₀ m' cm' news' s' → Q s') : CompS w A (.ListComp elt gens scope pos) d (.ref I) acc env Q s := by
  have run := comp_run (acc := acc) (scope := scope) (pos := pos) S hg hn hh Inv hSd body n 0 m cm news o s (by ktn_no "om") ho hv F hq
  exact comp_start hg run (self A o s _ ho (F.at 0 rfl) run)
theorem comp_all2 {target' iter' : Expr} {ifs' : List Expr} (S : Steps w I n P Ob Sd) (self : SelfI w I Ob) (hg : gens[d]? = some ⟨target, iter, ifs, 0⟩) (hn : gens[d + 1]? = some ⟨target', iter', ifs', 0⟩) (hf : ∀ x, foldedSetIterable iter' env x = pure x) (hh : A.handled = none)
    (Inv : Nat → (PySem.Str → Option Value) → (PySem.Str → Option Value) → List (Addr × Obj) → Prop)
    (hSd : ∀ i m cm news s o, Inv i m cm news → Fm w B C cl s₀ m cm ((I, o) :: news) s → Sd s.heap)
    {m cm : PySem.Str → Option Value} {news : List (Addr × Obj)} {o : Obj} {s : Shared} (ho : Ob 0 o) (hv : Inv 0 m cm news) (F : Fm w B C cl s₀ m cm ((I, o) :: news) s)
    (body : ∀ i v m cm news o s (K : Shared → Prop), i < n → P i v → Inv i m cm news → Fm w B C cl s₀ m cm ((I, o) :: news) s →
      (∀ m' cm' news' s', Inv (i + 1) m' cm' news' → Fm w B C cl s₀ m' cm' ((I, o) :: news') s' → K s') →
      wpAny (M w) A (letOwnedTupleGo target (.ref I) v) (fun _ s₁' => wpAny (M w) A (assign target env v) (fun _ s₂ => wpAny (M w) A (ifsOk env ifs) (fun ok s₃ =>
          if ok = true then wpAny (M w) A (eval iter' env) (fun x s₄ => wpAny (M w) A (pyIter x) (fun it' s₅ => CompS w A (.ListComp elt gens scope pos) (d + 1) it' acc env K s₅) NoE s₄) NoE s₃
          else K s₃) NoE s₂) NoE s₁') NoE s)
    (hq : ∀ m' cm' news' s', Inv n m' cm' news' → Fm w B C cl s₀ m' cm' news' s' → Q s') : CompS w A (.ListComp elt gens scope pos) d (.ref I) acc env Q s := by
  have run := comp_run2 (acc := acc) (scope := scope) (pos := pos) S hg hn hf hh Inv hSd body n 0 m cm news o s (by ktn_no "om") ho hv F hq
  exact comp_start hg run (self A o s _ ho (F.at 0 rfl) run)
end
section
variable {w : World} {B : Heap} {L : Addr} {m : PySem.Str → Option Value} {cl : List (PySem.Str × Addr)} {cm : PySem.Str → Option Value} {news : List (Addr × Obj)} {s₀ : Shared} {A : Around} {E : Value → Shared → Prop}
  {h : Heap} {g : Array GenState} {d d₀ : Drawn} {tk tk₀ : Nat} {os : OsState} {D : Addr} {v : Value} {vs : List Value} {k i : Nat} {Q : Value → Shared → Prop}
/-- a value appended to a tracked list -/
theorem app_at (i : Nat) (F : Fm w B L cl s₀ m cm news ⟨h, g, d₀, tk₀, os⟩) (hi : news[i]? = some (D, lsO vs k)) (hsz : vs.length ≤ 100000)
    (q : ∀ h', Fm w B L cl s₀ m cm (news.set i (D, lsO (vs ++ [v]) (k + 1))) ⟨h', g, d, tk, os⟩ → Q .none ⟨h', g, d, tk, os⟩) : wpAny (M w) A (call (.builtin "list.append") [.ref D, v]) Q E ⟨h, g, d, tk, os⟩ := by
  refine append_at (F.at i hi) (fun h₂ hs₂ hx₂ => ?_) (Nat.le_trans (by simpa using hsz) (show (100000 : Nat) ≤ sizeLine by decide))
  exact q h₂ (F.set1 (i := i) (o' := lsO (vs ++ [v]) (k + 1)) hi hs₂ (by simpa using hx₂))
end
/-- the ints of a list of values -/
noncomputable abbrev inV (l : List (Int × Tok)) : List Value := l.map fun p => .int p.1 p.2
noncomputable abbrev ObR (a : Int) (n : Nat) : Nat → Obj → Prop := fun i o => o = ⟨.type "range_iterator", none, .fields #[rawInt (a + (i : Nat) * 1), rawInt ((n : Int) - (i : Nat)), rawInt 1], #[]⟩
theorem up_size (a : Int) (n : Nat) : Builtin.Range.rangeSize a (a + n) 1 = n := by
  unfold Builtin.Range.rangeSize
  rw [if_pos (by decide)]
  by_cases h : a + (n : Int) > a
  · rw [if_pos h]; rw [show (1 : Int) = 1 from rfl, Int.ediv_one]; (first | lia | omega)
  · rw [if_neg h]; (first | lia | omega)
theorem up_small (a n : Nat) (hk : a + n ≤ 100000) : Builtin.Range.small (a : Int) ((a : Int) + n) 1 = true := by
  unfold Builtin.Range.small
  simp only [up_size]
  unfold Builtin.Range.rangeFitsLong
  simp
  (first | lia | omega)
section
variable {w : World} {B : Heap} {L : Addr} {m : PySem.Str → Option Value} {cl : List (PySem.Str × Addr)} {cm : PySem.Str → Option Value} {news : List (Addr × Obj)} {s₀ : Shared} {A : Around}
  {h : Heap} {g : Array GenState} {d d₀ : Drawn} {tk tk₀ : Nat} {os : OsState} {E : Value → Shared → Prop}
/-- an iterator over range(a, a + n) -/
theorem iter_range {r : Addr} {a n : Nat} {t u v : Tok} {Q : Value → Shared → Prop} (F : Fm w B L cl s₀ m cm ((r, ⟨.type "range", none, .fields #[.int (a : Int) t, .int ((a : Int) + n) u, .int 1 v], #[]⟩) :: news) ⟨h, g, d₀, tk₀, os⟩) (hn : a + n ≤ 100000)
    (q : ∀ I o h', ObR a n 0 o → Fm w B L cl s₀ m cm ((I, o) :: news) ⟨h', g, d, tk, os⟩ → Q (.ref I) ⟨h', g, d, tk, os⟩) : wpAny (M w) A (pyIter (.ref r)) Q E ⟨h, g, d, tk, os⟩ := by
  refine wpAny_pyIter_range (F.at 0 rfl) (up_small a n hn) ?_
  rw [up_size]
  have F₂ := F.push1 (d := d) (tk := tk) ⟨.type "range_iterator", none, .fields #[rawInt (a : Int), rawInt (n : Int), rawInt 1], #[]⟩
  refine q _ _ _ (by show _ = _; simp) (F₂.erase 1)
theorem range1 {n : Nat} {t : Tok} {Q : Value → Shared → Prop} (F : Fm w B L cl s₀ m cm news ⟨h, g, d₀, tk₀, os⟩)
    (q : ∀ r h' t' u' v' tk', Fm w B L cl s₀ m cm ((r, ⟨.type "range", none, .fields #[.int ((0 : Nat) : Int) t', .int (((0 : Nat) : Int) + n) u', .int 1 v'], #[]⟩) :: news) ⟨h', g, d, tk', os⟩ → Q (.ref r) ⟨h', g, d, tk', os⟩) :
    wpAny (M w) A (call (.type "range") [.int n t]) Q E ⟨h, g, d, tk, os⟩ := by
  refine call_range_1 ?_
  have F₂ := F.push1 (d := d) (tk := tk + 1 + 1) ⟨.type "range", none, .fields #[.int ((0 : Nat) : Int) tk, .int (n : Int) t, .int 1 (tk + 1)], #[]⟩
  refine q _ _ tk t (tk + 1) _ ?_
  rw [show (((0 : Nat) : Int) + n) = n from by simp]
  exact F₂
theorem range2 {a n : Nat} {e : Int} {t u : Tok} {Q : Value → Shared → Prop} (F : Fm w B L cl s₀ m cm news ⟨h, g, d₀, tk₀, os⟩) (he : e = (a : Int) + n)
    (q : ∀ r h' t' u' v' tk', Fm w B L cl s₀ m cm ((r, ⟨.type "range", none, .fields #[.int (a : Int) t', .int ((a : Int) + n) u', .int 1 v'], #[]⟩) :: news) ⟨h', g, d, tk', os⟩ → Q (.ref r) ⟨h', g, d, tk', os⟩) :
    wpAny (M w) A (call (.type "range") [.int a t, .int e u]) Q E ⟨h, g, d, tk, os⟩ := by
  subst he
  refine call_range_2 ?_
  have F₂ := F.push1 (d := d) (tk := tk + 1) ⟨.type "range", none, .fields #[.int (a : Int) t, .int ((a : Int) + n) u, .int 1 tk], #[]⟩
  exact q _ _ t u tk _ F₂
/-- an iterator over a tracked list -/
theorem iter_list {x : Addr} {i : Nat} {vs : List Value} {k : Nat} {Q : Value → Shared → Prop} (F : Fm w B L cl s₀ m cm news ⟨h, g, d₀, tk₀, os⟩) (hi : news[i]? = some (x, lsO vs k))
    (q : ∀ I h', Fm w B L cl s₀ m cm ((I, itO x 0) :: news) ⟨h', g, d, tk, os⟩ → Q (.ref I) ⟨h', g, d, tk, os⟩) : wpAny (M w) A (pyIter (.ref x)) Q E ⟨h, g, d, tk, os⟩ := by
  refine wpAny_pyIter_list (items := vs.toArray) ⟨_, F.at i hi, rfl, _, rfl⟩ ?_
  have F₂ := F.push1 (d := d) (tk := tk) (itO x 0)
  exact q _ _ F₂
end
section
variable {w : World} {B : Heap} {C I D : Addr} {cl : List (PySem.Str × Addr)} {s₀ : Shared} {A : Around} {n : Nat} {P : Nat → Value → Prop} {Ob : Nat → Obj → Prop} {Sd : Heap → Prop}
  {elt target iter : Expr} {gens : List Comprehension} {scope : Scope} {pos : Pos} {d : Nat} {env : Env} {Q : Shared → Prop}
/-- a comprehension whose elements are plain values: nothing new stays -/
theorem comp_simple (S : Steps w I n P Ob Sd) (self : SelfI w I Ob) (hg : gens[d]? = some ⟨target, iter, [], 0⟩) (hn : gens[d + 1]? = none) (hh : A.handled = none) (hsz : n ≤ 100000) (R : Nat → Value → Prop)
    {m cm : PySem.Str → Option Value} {rest : List (Addr × Obj)} {k₀ : Nat} {o : Obj} {s : Shared} (ho : Ob 0 o) (F : Fm w B C cl s₀ m cm ((I, o) :: (D, lsO [] k₀) :: rest) s)
    (hSd : ∀ m l k s o, Fm w B C cl s₀ m cm ((I, o) :: (D, lsO l k) :: rest) s → Sd s.heap)
    (body : ∀ i v m l k o s (K : Value → Shared → Prop), i < n → P i v → Fm w B C cl s₀ m cm ((I, o) :: (D, lsO l k) :: rest) s →
      (∀ y m' s', R i y → Fm w B C cl s₀ m' cm ((I, o) :: (D, lsO l k) :: rest) s' → K y s') →
      wpAny (M w) A (letOwnedTupleGo target (.ref I) v) (fun _ s₁' => wpAny (M w) A (assign target env v) (fun _ s₂ => wpAny (M w) A (eval elt env) K NoE s₂) NoE s₁') NoE s)
    (hq : ∀ m' l k s', l.length = n → (∀ j y, l[j]? = some y → R j y) → Fm w B C cl s₀ m' cm ((D, lsO l k) :: rest) s' → Q s') : CompS w A (.ListComp elt gens scope pos) d (.ref I) (.ref D) env Q s := by
  refine comp_all S self hg hn hh (fun i m cm' news => cm' = cm ∧ ∃ l k, news = (D, lsO l k) :: rest ∧ l.length = i ∧ ∀ j y, l[j]? = some y → R j y) ?_ ho ⟨rfl, [], _, rfl, rfl, fun j y e => by simp at e⟩ F ?_ ?_
  · rintro i m cm' news s o ⟨rfl, l, k, rfl, _⟩ F
    exact hSd _ _ _ _ _ F
  · rintro i v m cm' news o s K hi hP ⟨rfl, l, k, rfl, hl, hR⟩ F q
    refine wpAny_mono (body i v m l k o s _ hi hP F fun y m' s' hy F' => ?_) (fun _ s₁ h₁ => wpAny_mono h₁ (fun _ s₂ h₂ => wpAny_tests_nil (by rw [if_pos rfl]; exact h₂)) fun _ _ z => z) fun _ _ z => z
    obtain ⟨h, g, dd, tk, os⟩ := s'
    refine app_at 1 F' rfl (by ktn_no "om") fun h' F'' => q _ _ _ _ ⟨rfl, l ++ [y], _, rfl, by simp [hl], fun j z e => ?_⟩ F''
    by_cases hj : j < l.length
    · rw [List.getElem?_append_left hj] at e; exact hR j z e
    · rw [List.getElem?_append_right (by ktn_no "om")] at e
      have : j - l.length = 0 := by
        have := (List.getElem?_eq_some_iff.mp e).1
        simp at this; (first | lia | omega)
      rw [this] at e
      have hji : j = i := by (first | lia | omega)
      subst hji
      cases e; exact hy
  · rintro m' cm' news' s' ⟨rfl, l, k, rfl, hl, hR⟩ F'
    exact hq _ _ _ _ hl hR F'
end
section
variable {w : World} {B : Heap} {L : Addr} {m : PySem.Str → Option Value} {cl : List (PySem.Str × Addr)} {cm : PySem.Str → Option Value} {news : List (Addr × Obj)} {s₀ : Shared} {A : Around}
  {h : Heap} {g : Array GenState} {d d₀ : Drawn} {tk tk₀ : Nat} {os : OsState} {E : Value → Shared → Prop} {env : Env}
/-- a slice of a tracked list -/
theorem list_slice {value : Expr} {lower upper : Option Expr} {p pos : Pos} {Q : Value → Shared → Prop} {s : Shared}
    (q : wpAny (M w) A (eval value env) (fun o s₁ => wpAny (M w) A (evalPart lower env) (fun vl s₂ => wpAny (M w) A (evalPart upper env) (fun vu s₃ =>
      ∃ (B : Heap) (L : Addr) (m : PySem.Str → Option Value) (cl : List (PySem.Str × Addr)) (cm : PySem.Str → Option Value) (news : List (Addr × Obj)) (s₀ : Shared) (x : Addr) (i : Nat) (vs : List Value) (k : Nat) (lo hi : Option Int), o = .ref x ∧ Fm w B L cl s₀ m cm news s₃ ∧ news[i]? = some (x, lsO vs k) ∧ vs.length ≤ 100000 ∧ IsPart vl lo ∧ IsPart vu hi ∧
        ∀ y h' k, Fm w B L cl s₀ m cm ((y, lsO (slicePick vs.toArray lo hi none).toList k) :: news) ⟨h', s₃.gens, s₃.drawn, s₃.toks, s₃.os⟩ → Q (.ref y) ⟨h', s₃.gens, s₃.drawn, s₃.toks, s₃.os⟩) E s₂) E s₁) E s)
    (ht : ∀ o r, letTemporaryGo value o r = pure () := by intro _ _; rfl) : wpAny (M w) A (eval (.Subscript value (.Slice lower upper none p) pos) env) Q E s := by
  refine wpAny_Subscript_list_slice (wpAny_mono q (fun o s₁ h₁ => wpAny_mono h₁ (fun vl s₂ h₂ => wpAny_mono h₂ (fun vu s₃ h₃ => ?_) fun _ _ z => z) fun _ _ z => z) fun _ _ z => z) ht
  obtain ⟨B, L, m, cl, cm, news, s₀, x, i, vs, k, lo, hi, rfl, F, hi', hsz, p1, p2, q⟩ := h₃
  refine ⟨x, vs.toArray, lo, hi, rfl, ⟨_, F.at i hi', rfl, _, rfl⟩, Nat.le_trans (by simpa using hsz) (show (100000 : Nat) ≤ sizeLine by decide), p1, p2, ?_⟩
  obtain ⟨h₃, g₃, d₃, k₃, o₃⟩ := s₃
  have F₁ := F.push1 (g := g₃) (d := d₃) (tk := k₃) ⟨.type "slice", none, .fields #[vl, vu, .none], #[]⟩
  have F₂ := (F₁.push1 (g := g₃) (d := d₃) (tk := k₃) ⟨.type "list", none, .seq (slicePick vs.toArray lo hi none), #[]⟩).erase 1
  rw [show (h₃.push ⟨.type "slice", none, .fields #[vl, vu, .none], #[]⟩).objs.size = h₃.objs.size + 1 from Heap.size_push _ _] at F₂
  exact q _ _ _ F₂
/-- an item of a tracked list -/
theorem list_item {s : Shared} {value slice : Expr} {x : Addr} {vs : List Value} {n : Nat} {k : Nat} {u : Tok} {v : Value} {Q : Value → Shared → Prop} (hx : s.heap.get? x = some (lsO vs n)) (hk : k < 100000) (hv : vs[k]? = some v) (q : Q v s)
    (hs : subscripted slice false (.ref x) (.int k u) = operate [.ref x, .int k u] (getItem (.ref x) (.int k u)) := by with_unfolding_all rfl) :
    wpAny (M w) A (subscriptTail value slice (.ref x) (.int k u)) Q E s := by
  have hl : s.heap.IsList x vs.toArray := ⟨_, hx, rfl, _, rfl⟩
  exact sub_tail hl.typeIs slot_list_getitem.lookup (fun _ _ _ h => wpAny_letTemporaryGo h) (wpAny_getItem_list hl (by ktn_no "om") (by ktn_no "om") (by simpa using hv) q) hs
end
/-- lists of ints in the heap -/
inductive Lists : List (List Int) → List Value → List (Addr × Obj) → Prop
  | nil : Lists [] [] []
  | snoc {xs vs l a y k} : Lists xs vs l → Lists (xs ++ [y.map (·.1)]) (vs ++ [.ref a]) (l ++ [(a, lsO (inV y) k)])
noncomputable abbrev nlS : PySem.Str := Str.ofString "\n"
noncomputable abbrev scS : PySem.Str := Str.ofString ";"
noncomputable def rowStrs (mx : Int) (ws : List PySem.Str) : List PySem.Str := let st := ws.foldl (fun st v => chunk mx st v) ([], []); st.1 ++ [accStr st.2]
noncomputable def rowV (mx : Int) (ws : List PySem.Str) : List Int := (Txt.split (Txt.join nlS (rowStrs mx ws)) nlS).map fun r => Txt.count r scS
noncomputable abbrev dotS : PySem.Str := Str.ofString "."
noncomputable abbrev crS : PySem.Str := Str.ofString "\r"
noncomputable def topOf (st : List (PySem.Str × PySem.Str)) : PySem.Str × PySem.Str := st.getLastD ("", "")
noncomputable def quoteF (x : PySem.Str) : PySem.Str := quote2 (quote1 x)
/-- words laid one behind the other -/
noncomputable def cat (l : List PySem.Str) : PySem.Str := ⟨(l.flatMap (·.cps.toList)).toArray⟩
theorem cat_nil : cat [] = ⟨#[]⟩ := rfl
theorem str_ext {a b : PySem.Str} (h : a.cps.toList = b.cps.toList) : a = b := by
  obtain ⟨⟨a⟩⟩ := a; obtain ⟨⟨b⟩⟩ := b; simp at h; rw [h]
theorem cat_list (l : List PySem.Str) : (cat l).cps.toList = l.flatMap (·.cps.toList) := by simp [cat]
theorem join_nil_cat : ∀ l : List PySem.Str, Str.join (⟨#[]⟩ : PySem.Str) l = cat l
  | [] => rfl
  | [a] => str_ext (by simp [cat, Str.join])
  | a :: b :: r => by
    have ih := join_nil_cat (b :: r)
    refine str_ext ?_
    show (a ++ (⟨#[]⟩ : PySem.Str) ++ Str.join (⟨#[]⟩ : PySem.Str) (b :: r)).cps.toList = _
    rw [ih, cat_list]
    simp only [Str.cps_append, Array.toList_append, cat_list]
    simp
noncomputable abbrev pr (v : PySem.Str) : PySem.Str × PySem.Str := (e0, v)
theorem e0_app (v : PySem.Str) : e0 ++ v = v := str_ext (by simp [Str.cps_append]; decide)
theorem accStr_cat (l : List PySem.Str) : accStr (l.map pr) = cat l := by
  unfold accStr
  rw [List.map_map, show ((fun y : PySem.Str × PySem.Str => y.1 ++ y.2) ∘ pr) = id from funext fun v => e0_app v, List.map_id]
  exact (StrLaws.glued_eq_join _ _).trans (join_nil_cat l)
noncomputable def lens (l : List PySem.Str) : Int := (l.map fun v => (v.length : Int)).sum
theorem accLen_lens (l : List PySem.Str) : accLen 0 (l.map pr) = lens l := by
  unfold accLen lens
  rw [List.map_map, show ((fun y : PySem.Str × PySem.Str => ((y.1.length : Int) + (y.2.length : Int))) ∘ pr) = (fun v : PySem.Str => (v.length : Int)) from funext fun v => by
    show ((e0.length : Nat) : Int) + _ = _
    rw [show e0.length = 0 by decide]; simp]
  simp
/-- one more word: into the row, or into a new one -/
noncomputable def gr (mx : Int) (st : List (List PySem.Str) × List PySem.Str) (v : PySem.Str) : List (List PySem.Str) × List PySem.Str :=
  if lens (st.2 ++ [v]) > mx ∧ st.2.isEmpty = false then (st.1 ++ [st.2], [v]) else (st.1, st.2 ++ [v])
noncomputable def rowsG (mx : Int) (ws : List PySem.Str) : List (List PySem.Str) := let st := ws.foldl (gr mx) ([], []); st.1 ++ [st.2]
theorem chunk_gr (mx : Int) (st : List (List PySem.Str) × List PySem.Str) (v : PySem.Str) : chunk mx (st.1.map cat, st.2.map pr) v = ((gr mx st v).1.map cat, (gr mx st v).2.map pr) := by
  unfold chunk gr
  have e : (st.2.map pr) ++ [(e0, v)] = (st.2 ++ [v]).map pr := by simp
  dsimp only
  rw [e, accLen_lens, show (st.2.map pr).isEmpty = st.2.isEmpty by cases st.2 <;> rfl, accStr_cat]
  split <;> simp
theorem fold_gr (mx : Int) : ∀ (ws : List PySem.Str) (st : List (List PySem.Str) × List PySem.Str), ws.foldl (fun st v => chunk mx st v) (st.1.map cat, st.2.map pr) = ((ws.foldl (gr mx) st).1.map cat, (ws.foldl (gr mx) st).2.map pr)
  | [], st => rfl
  | v :: ws, st => by rw [List.foldl_cons, List.foldl_cons, chunk_gr]; exact fold_gr mx ws _
theorem rowStrs_eq (mx : Int) (ws : List PySem.Str) : rowStrs mx ws = (rowsG mx ws).map cat := by
  unfold rowStrs rowsG
  have := fold_gr mx ws ([], [])
  simp only [List.map_nil] at this
  rw [this]
  simp [accStr_cat]
theorem gr_flat (mx : Int) (st : List (List PySem.Str) × List PySem.Str) (v : PySem.Str) : (gr mx st v).1.flatten ++ (gr mx st v).2 = (st.1.flatten ++ st.2) ++ [v] := by
  unfold gr; split <;> simp
theorem fold_flat (mx : Int) : ∀ (ws : List PySem.Str) (st : List (List PySem.Str) × List PySem.Str), (ws.foldl (gr mx) st).1.flatten ++ (ws.foldl (gr mx) st).2 = (st.1.flatten ++ st.2) ++ ws
  | [], st => by simp
  | v :: ws, st => by rw [List.foldl_cons, fold_flat mx ws, gr_flat]; simp
theorem rowsG_flat (mx : Int) (ws : List PySem.Str) : (rowsG mx ws).flatten = ws := by
  have := fold_flat mx ws ([], [])
  unfold rowsG
  simpa using this
theorem fold_count (mx : Int) : ∀ (ws : List PySem.Str) (st : List (List PySem.Str) × List PySem.Str), (ws.foldl (gr mx) st).1.length ≤ st.1.length + ws.length
  | [], st => by simp
  | v :: ws, st => by
    have := fold_count mx ws (gr mx st v)
    have h : (gr mx st v).1.length ≤ st.1.length + 1 := by unfold gr; split <;> simp
    simp only [List.foldl_cons, List.length_cons]
    (first | lia | omega)
theorem rowsG_length (mx : Int) (ws : List PySem.Str) : (rowsG mx ws).length ≤ ws.length + 1 := by
  have := fold_count mx ws ([], [])
  unfold rowsG
  simp at this ⊢
  exact this
theorem cat_length (l : List PySem.Str) : (cat l).length = (l.map (·.length)).sum := by
  show (cat l).cps.size = _
  rw [← Array.length_toList, cat_list, List.length_flatMap]
  rfl
theorem sum_le_flat {N : Nat} : ∀ (rows : List (List PySem.Str)), (rows.flatten.map (·.length)).sum ≤ N → ∀ r ∈ rows, (r.map (·.length)).sum ≤ N
  | [], _, r, h => by simp at h
  | a :: rows, hN, r, h => by
    rw [List.flatten_cons, List.map_append, List.sum_append] at hN
    rcases List.mem_cons.mp h with rfl | h
    · (first | lia | omega)
    · exact sum_le_flat rows (by ktn_no "om") r h
theorem row_le {mx : Int} {ws : List PySem.Str} {N : Nat} (h : (ws.map (·.length)).sum ≤ N) : ∀ y ∈ rowStrs mx ws, y.length ≤ N := by
  intro y hy
  rw [rowStrs_eq] at hy
  (refine x1_2 (List.mem_map.mp hy) ?_; intro r hr eqX2; subst eqX2)
  rw [cat_length]
  exact sum_le_flat (rowsG mx ws) (by rw [rowsG_flat]; exact h) r hr
theorem sum_le {N : Nat} : ∀ (ws : List PySem.Str), (∀ y ∈ ws, y.length ≤ N) → (ws.map (·.length)).sum ≤ ws.length * N
  | [], _ => by simp
  | a :: ws, h => by
    have := sum_le ws fun y hy => h y (.tail _ hy)
    have h2 := h a (.head _)
    simp only [List.map_cons, List.sum_cons, List.length_cons]
    rw [Nat.add_mul]; (first | lia | omega)
theorem join_length (sep : PySem.Str) : ∀ (l : List PySem.Str), (Str.join sep l).length ≤ (l.map (·.length)).sum + l.length * sep.length
  | [] => Nat.zero_le _
  | [a] => by simp [Str.join]
  | a :: b :: r => by
    have ih := join_length sep (b :: r)
    show (a ++ sep ++ Str.join sep (b :: r)).length ≤ _
    rw [Str.length_append, Str.length_append]
    simp only [List.map_cons, List.sum_cons, List.length_cons] at ih ⊢
    have e : (r.length + 1 + 1) * sep.length = (r.length + 1) * sep.length + sep.length := by rw [Nat.add_mul, Nat.one_mul]
    (first | lia | omega)
theorem joinOk_rows {mx : Int} {ws : List PySem.Str} (hn : ws.length ≤ 20) (h : ∀ y ∈ ws, y.length ≤ 100) : JoinOk nlS (rowStrs mx ws) = true ∧ (Txt.join nlS (rowStrs mx ws)).length ≤ 90000 := by
  have hs : (ws.map (·.length)).sum ≤ 2000 := Nat.le_trans (sum_le ws h) (by have := Nat.mul_le_mul_right 100 hn; (first | lia | omega))
  have hr := row_le (mx := mx) hs
  have hl : (rowStrs mx ws).length ≤ 21 := by rw [rowStrs_eq, List.length_map]; have := rowsG_length mx ws; (first | lia | omega)
  have h1 : nlS.length = 1 := by decide
  constructor
  · unfold JoinOk
    rw [StrLaws.joinFits hr (by rw [h1]; (first | lia | omega))]
    rfl
  · rw [show Txt.join nlS (rowStrs mx ws) = Str.join nlS (rowStrs mx ws) from StrLaws.glued_eq_join _ _]
    refine Nat.le_trans (join_length nlS _) ?_
    have := sum_le _ hr
    rw [h1]
    have := Nat.mul_le_mul_right 2000 hl
    (first | lia | omega)
/-- how many of the words go on behind a row of length s -/
noncomputable def more (W s : Int) : List PySem.Str → Nat
  | [] => 0
  | u :: us => if s + u.length ≤ W then more W (s + u.length) us + 1 else 0
theorem lens_snoc (l : List PySem.Str) (v : PySem.Str) : lens (l ++ [v]) = lens l + v.length := by
  unfold lens; simp
theorem fold_more (W : Int) : ∀ (us : List PySem.Str) (done : List (List PySem.Str)) (row : List PySem.Str), row.isEmpty = false →
    us.foldl (gr W) (done, row) = match us.drop (more W (lens row) us) with
      | [] => (done, row ++ us)
      | u :: rest => rest.foldl (gr W) (done ++ [row ++ us.take (more W (lens row) us)], [u])
  | [], done, row, _ => by simp [more]
  | u :: us, done, row, h => by
    rw [List.foldl_cons]
    unfold more
    by_cases q : lens row + u.length ≤ W
    · have e : gr W (done, row) u = (done, row ++ [u]) := by
        unfold gr
        rw [if_neg]
        rw [lens_snoc]
        intro x
        exact absurd x.1 (by dsimp only; (first | lia | omega))
      rw [e, if_pos q, fold_more W us done (row ++ [u]) (by simp), lens_snoc, List.drop_succ_cons]
      cases us.drop (more W (lens row + u.length) us) <;> simp
    · have e : gr W (done, row) u = (done ++ [row], [u]) := by
        unfold gr
        rw [if_pos]
        rw [lens_snoc]
        exact ⟨by dsimp only; (first | lia | omega), h⟩
      rw [e, if_neg q]
      simp
theorem fold_done (W : Int) : ∀ (us : List PySem.Str) (done : List (List PySem.Str)) (row : List PySem.Str),
    us.foldl (gr W) (done, row) = (done ++ (us.foldl (gr W) ([], row)).1, (us.foldl (gr W) ([], row)).2)
  | [], done, row => by simp
  | u :: us, done, row => by
    rw [List.foldl_cons, List.foldl_cons]
    have e : gr W (done, row) u = (done ++ (gr W ([], row) u).1, (gr W ([], row) u).2) := by
      unfold gr
      dsimp only
      split <;> simp
    rw [e, fold_done W us (done ++ _), fold_done W us (gr W ([], row) u).1]
    simp
theorem rowsG_cons (W : Int) (v : PySem.Str) (vs : List PySem.Str) :
    rowsG W (v :: vs) = (v :: vs.take (more W v.length vs)) :: (match vs.drop (more W v.length vs) with | [] => [] | u :: rest => rowsG W (u :: rest)) := by
  have h0 : ∀ (u : PySem.Str) (r : List PySem.Str), rowsG W (u :: r) = (r.foldl (gr W) ([], [u])).1 ++ [(r.foldl (gr W) ([], [u])).2] := fun u r => by
    unfold rowsG
    rw [List.foldl_cons]
    have e : gr W ([], []) u = ([], [u]) := by
      unfold gr; rw [if_neg (by intro h; exact absurd h.2 (by decide))]; rfl
    rw [e]
  rw [h0, fold_more W vs [] [v] rfl]
  have el : lens [v] = v.length := by unfold lens; simp
  rw [el]
  cases hd : vs.drop (more W v.length vs) with
  | nil =>
    have : vs.take (more W v.length vs) = vs := List.take_of_length_le (List.drop_eq_nil_iff.mp hd)
    rw [this]; simp
  | cons u rest =>
    dsimp only
    rw [fold_done, h0]
    simp
noncomputable def cn (W : Int) (ws : List PySem.Str) : List Nat := (rowsG W ws).map List.length
theorem more_le (W : Int) : ∀ (us : List PySem.Str) (s : Int), more W s us ≤ us.length
  | [], s => Nat.le_refl _
  | u :: us, s => by
    unfold more
    have := more_le W us (s + u.length)
    split <;> simp <;> (first | lia | omega)
theorem cn_cons (W : Int) (v : PySem.Str) (vs : List PySem.Str) :
    cn W (v :: vs) = (1 + more W v.length vs) :: (if vs.length ≤ more W v.length vs then [] else cn W (vs.drop (more W v.length vs))) := by
  unfold cn
  rw [rowsG_cons, List.map_cons]
  congr 1
  · have := more_le W vs v.length
    simp [List.length_take]; (first | lia | omega)
  · cases hd : vs.drop (more W v.length vs) with
    | nil => rw [if_pos (List.drop_eq_nil_iff.mp hd)]; rfl
    | cons u rest =>
      rw [if_neg (fun q => by rw [List.drop_eq_nil_iff.mpr q] at hd; cases hd)]
/-- which words a first row takes -/
theorem more_spec (W : Int) : ∀ (us : List PySem.Str) (s : Int) (j : Nat), j < us.length → (j < more W s us ↔ s + lens (us.take (j + 1)) ≤ W)
  | [], s, j, h => by simp at h
  | u :: us, s, j, h => by
    have hl : ∀ l : List PySem.Str, 0 ≤ lens l := fun l => by
      unfold lens
      induction l with
      | nil => simp
      | cons a l ih => simp only [List.map_cons, List.sum_cons]; (first | lia | omega)
    have hc : lens ((u :: us).take (j + 1)) = u.length + lens (us.take j) := by
      unfold lens; simp [List.take_succ_cons]
    rw [hc]
    unfold more
    by_cases q : s + u.length ≤ W
    · rw [if_pos q]
      cases j with
      | zero =>
        have : lens (us.take 0) = 0 := by unfold lens; simp
        rw [this]
        constructor <;> intro _ <;> (first | lia | omega)
      | succ j =>
        rw [Nat.succ_lt_succ_iff, more_spec W us (s + u.length) j (by simpa using h)]
        constructor <;> intro _ <;> (first | lia | omega)
    · rw [if_neg q]
      have := hl (us.take j)
      constructor <;> intro _ <;> (first | lia | omega)
/-- splitting what was joined -/
theorem app_free {c : Nat} : ∀ {a b x y : List Nat}, c ∉ a → c ∉ b → a ++ c :: x = b ++ c :: y → a = b ∧ x = y
  | [], [], x, y, _, _, h => by simp at h; exact ⟨rfl, h⟩
  | [], d :: b, x, y, _, hb, h => by simp at h; exact absurd (h.1 ▸ List.mem_cons_self) hb
  | d :: a, [], x, y, ha, _, h => by simp at h; exact absurd (h.1 ▸ List.mem_cons_self) ha
  | d :: a, e :: b, x, y, ha, hb, h => by
    simp only [List.cons_append, List.cons.injEq] at h
    have := app_free (fun q => ha (.tail _ q)) (fun q => hb (.tail _ q)) h.2
    exact ⟨by rw [h.1, this.1], this.2⟩
theorem app_free1 {c : Nat} {a b y : List Nat} (ha : c ∉ a) (h : a = b ++ c :: y) : False := ha (by rw [h]; simp)
theorem join_inj {c : Nat} : ∀ (as bs : List PySem.Str), as ≠ [] → bs ≠ [] → (∀ a ∈ as, c ∉ a.cps.toList) → (∀ b ∈ bs, c ∉ b.cps.toList) → Str.join ⟨#[c]⟩ as = Str.join ⟨#[c]⟩ bs → as = bs
  | [], _, h, _, _, _, _ => absurd rfl h
  | _, [], _, h, _, _, _ => absurd rfl h
  | [a], [b], _, _, _, _, h => by have h : a = b := h; rw [h]
  | [a], b :: b' :: bs, _, _, ha, _, h => by
    have h := congrArg (fun z : PySem.Str => z.cps.toList) h
    have e : (Str.join ⟨#[c]⟩ (b :: b' :: bs)).cps.toList = b.cps.toList ++ c :: (Str.join ⟨#[c]⟩ (b' :: bs)).cps.toList := by
      show (b ++ (⟨#[c]⟩ : PySem.Str) ++ Str.join ⟨#[c]⟩ (b' :: bs)).cps.toList = _
      simp [Str.cps_append]
    exact (app_free1 (ha a (.head _)) (by rw [← e]; exact h)).elim
  | a :: a' :: as, [b], _, _, _, hb, h => by
    have h := congrArg (fun z : PySem.Str => z.cps.toList) h
    have e : (Str.join ⟨#[c]⟩ (a :: a' :: as)).cps.toList = a.cps.toList ++ c :: (Str.join ⟨#[c]⟩ (a' :: as)).cps.toList := by
      show (a ++ (⟨#[c]⟩ : PySem.Str) ++ Str.join ⟨#[c]⟩ (a' :: as)).cps.toList = _
      simp [Str.cps_append]
    exact (app_free1 (hb b (.head _)) (by rw [← e]; exact h.symm)).elim
  | a :: a' :: as, b :: b' :: bs, _, _, ha, hb, h => by
    have h := congrArg (fun z : PySem.Str => z.cps.toList) h
    have e : ∀ (x y : PySem.Str) (l : List PySem.Str), (Str.join ⟨#[c]⟩ (x :: y :: l)).cps.toList = x.cps.toList ++ c :: (Str.join ⟨#[c]⟩ (y :: l)).cps.toList := fun x y l => by
      show (x ++ (⟨#[c]⟩ : PySem.Str) ++ Str.join ⟨#[c]⟩ (y :: l)).cps.toList = _
      simp [Str.cps_append]
    rw [e, e] at h
    obtain ⟨h1, h2⟩ := app_free (ha a (.head _)) (hb b (.head _)) h
    rw [str_ext h1, join_inj (a' :: as) (b' :: bs) (by simp) (by simp) (fun x hx => ha x (.tail _ hx)) (fun x hx => hb x (.tail _ hx)) (str_ext h2)]
theorem split_ne (x y : PySem.Str) : Txt.split x y ≠ [] := by
  unfold Txt.split
  split
  · simp
  · split
    · simp
    · rw [StrLaws.partsBetween_eq]
      (refine x2_1 (StrLaws.partsFrom_ne x y.length 0 (Builtin.Str.occurrences x y 0 x.length (x.length + 1))) ?_; intro p r e)
      rw [e]; simp
theorem split_of_join {c : Nat} {l : List PySem.Str} (hl : l ≠ []) (h : ∀ a ∈ l, c ∉ a.cps.toList) : Txt.split (Str.join ⟨#[c]⟩ l) ⟨#[c]⟩ = l :=
  join_inj (c := c) _ _ (split_ne _ _) hl (StrLaws.split_free _ c) h (StrLaws.join_split _ _)
/-- each end of a line as a return and a feed -/
noncomputable def crlS : Bool → List Nat → List Nat
  | _, [] => []
  | cr, c :: r => if c = 10 then (if cr then crlS false r else 13 :: 10 :: crlS false r) else if c = 13 then 13 :: 10 :: crlS true r else c :: crlS false r
/-- a dot at a line's head twice -/
noncomputable def dotl : Bool → List Nat → List Nat
  | _, [] => []
  | b, c :: r => if b && c == 46 then 46 :: 46 :: dotl false r else c :: dotl (c == 10) r
noncomputable def quoteZ (x : PySem.Str) : PySem.Str := ⟨(dotl true (crlS false x.cps.toList)).toArray⟩
theorem drop_at {x : Array Nat} {s : Nat} (h : s < x.size) : x.toList.drop s = x.getD s 0 :: x.toList.drop (s + 1) := by
  rw [List.drop_eq_getElem_cons (by simpa using h)]
  simp [Array.getD, h]
theorem f2_spec (x : Array Nat) : ∀ (k s : Nat), s ≤ x.size → x.size + 1 - s ≤ k → match first2 x k s with
    | some t => s ≤ t ∧ t < x.size ∧ nl (x.getD t 0) = true ∧ crlS false (x.toList.drop s) = (x.toList.drop s).take (t - s) ++ crlS false (x.toList.drop t)
    | none => crlS false (x.toList.drop s) = x.toList.drop s
  | 0, s, hs, hk => by (first | lia | omega)
  | k + 1, s, hs, hk => by
    unfold first2
    by_cases h1 : s ≥ x.size
    · rw [if_pos h1]
      have : x.toList.drop s = [] := List.drop_eq_nil_iff.mpr (by simpa using h1)
      dsimp only
      rw [this]; rfl
    · rw [if_neg h1]
      by_cases h2 : nl (x.getD s 0) = true
      · rw [if_pos h2]
        refine ⟨Nat.le_refl _, by (first | lia | omega), h2, ?_⟩
        simp
      · rw [if_neg h2]
        have ih := f2_spec x k (s + 1) (by ktn_no "om") (by ktn_no "om")
        have hd := drop_at (x := x) (s := s) (by ktn_no "om")
        have hc : crlS false (x.toList.drop s) = x.getD s 0 :: crlS false (x.toList.drop (s + 1)) := by
          rw [hd]
          have h3 : x.getD s 0 ≠ 10 ∧ x.getD s 0 ≠ 13 := by
            unfold nl at h2
            simp at h2
            simpa using h2
          conv => lhs; unfold crlS
          rw [if_neg h3.1, if_neg h3.2]
        cases hf : first2 x k (s + 1) with
        | none =>
          rw [hf] at ih
          dsimp only at ih ⊢
          rw [hc, ih, ← hd]
        | some t =>
          rw [hf] at ih
          dsimp only at ih ⊢
          (refine x0_4 (ih) ?_; try clear ih; intro a b c e)
          refine ⟨by (first | lia | omega), b, c, ?_⟩
          rw [hc, e, hd, show t - s = (t - (s + 1)) + 1 by (first | lia | omega), List.take_succ_cons]
          rfl
theorem crlS_true {l : List Nat} (h : l.head? ≠ some 10) : crlS true l = crlS false l := by
  cases l with
  | nil => rfl
  | cons c r =>
    have : c ≠ 10 := fun e => h (by rw [e]; rfl)
    conv => lhs; unfold crlS
    conv => rhs; unfold crlS
    rw [if_neg this, if_neg this]
theorem crl_at {x : Array Nat} {t : Nat} (ht : t < x.size) (h : nl (x.getD t 0) = true) : crlS false (x.toList.drop t) = 13 :: 10 :: crlS false (x.toList.drop (end2 x t)) := by
  rw [drop_at ht]
  unfold nl at h
  rw [Bool.or_eq_true, beq_iff_eq, beq_iff_eq] at h
  conv => lhs; unfold crlS
  rcases h with h | h
  · rw [h, if_pos rfl, if_neg Bool.false_ne_true]
    unfold end2
    rw [h, if_neg (by simp)]
  · rw [h, if_neg (by decide), if_pos rfl]
    unfold end2
    rw [h]
    by_cases q : t + 1 < x.size ∧ (x.getD (t + 1) 0 == 10) = true
    · rw [if_pos ⟨rfl, q⟩, drop_at q.1, beq_iff_eq.mp q.2]
      conv => lhs; unfold crlS
      rw [if_pos rfl, if_pos rfl]
    · rw [if_neg (fun z => q z.2)]
      rw [crlS_true]
      intro e
      apply q
      by_cases h2 : t + 1 < x.size
      · rw [drop_at h2] at e
        simp only [List.head?_cons, Option.some.injEq] at e
        exact ⟨h2, by rw [beq_iff_eq]; exact e⟩
      · rw [List.drop_eq_nil_iff.mpr (by simpa using h2)] at e
        cases e
theorem end2_le {x : Array Nat} {t : Nat} (ht : t < x.size) : t < end2 x t ∧ end2 x t ≤ x.size := by
  unfold end2
  by_cases q : (x.getD t 0 == 13) = true ∧ t + 1 < x.size ∧ (x.getD (t + 1) 0 == 10) = true
  · rw [if_pos q]; (first | lia | omega)
  · rw [if_neg q]; (first | lia | omega)
theorem ext_list (x : Array Nat) (a b : Nat) : (x.extract a b).toList = (x.toList.drop a).take (b - a) := by simp
theorem cat_cons (p : PySem.Str) (l : List PySem.Str) : (cat (p :: l)).cps.toList = p.cps.toList ++ (cat l).cps.toList := by
  rw [cat_list, cat_list]; rfl
theorem crlf_list : crlfS.cps.toList = [13, 10] := by decide
theorem dots_list : dotsS.cps.toList = [46, 46] := by decide
theorem sub_crl (x : PySem.Str) : ∀ (k dn : Nat), dn ≤ x.cps.size → x.cps.size + 1 - dn ≤ k → (cat (subGo (find2 x.cps) x crlfS k dn)).cps.toList = crlS false (x.cps.toList.drop dn)
  | 0, dn, h, hk => by (first | lia | omega)
  | k + 1, dn, h, hk => by
    unfold subGo
    have fin : crlS false (x.cps.toList.drop dn) = x.cps.toList.drop dn → (cat (if dn < x.cps.size then [⟨x.cps.extract dn x.cps.size⟩] else [])).cps.toList = crlS false (x.cps.toList.drop dn) := fun e => by
      rw [e]
      by_cases q : dn < x.cps.size
      · rw [if_pos q, cat_cons, ext_list, cat_nil, List.take_of_length_le (by simp)]
        simp
      · rw [if_neg q, cat_nil, List.drop_eq_nil_iff.mpr (by simpa using q)]
    by_cases hlt : dn < x.cps.size
    · have hf : find2 x.cps dn = (first2 x.cps (x.cps.size + 1 - dn) dn).map fun t => (t, end2 x.cps t) := by unfold find2; rw [if_pos hlt]
      have sp := f2_spec x.cps (x.cps.size + 1 - dn) dn h (Nat.le_refl _)
      rw [hf]
      cases hq : first2 x.cps (x.cps.size + 1 - dn) dn with
      | none =>
        rw [hq] at sp
        exact fin sp
      | some t =>
        rw [hq] at sp
        (refine x0_4 (sp) ?_; try clear sp; intro a b c e)
        dsimp only [Option.map]
        have hb := end2_le b
        have ih := sub_crl x k (end2 x.cps t) hb.2 (by ktn_no "om")
        rw [e, crl_at b c]
        by_cases q : dn < t
        · rw [if_pos q]
          show (cat (⟨x.cps.extract dn t⟩ :: crlfS :: _)).cps.toList = _
          rw [cat_cons, cat_cons, ih, crlf_list, ext_list]
          rfl
        · rw [if_neg q]
          have : t = dn := by (first | lia | omega)
          subst this
          show (cat (crlfS :: _)).cps.toList = _
          rw [cat_cons, ih, crlf_list]
          simp
    · have hf : find2 x.cps dn = none := by unfold find2; rw [if_neg hlt]
      rw [hf]
      refine fin ?_
      rw [List.drop_eq_nil_iff.mpr (by simpa using hlt)]
      rfl
theorem find1_spec (x : Array Nat) : ∀ (k s : Nat), s ≤ x.size → x.size + 1 - s ≤ k → match find1 x k s with
    | some (a, b) => s ≤ a ∧ a < x.size ∧ b = a + 1 ∧ dotl (bol x s) (x.toList.drop s) = (x.toList.drop s).take (a - s) ++ 46 :: 46 :: dotl (bol x b) (x.toList.drop b)
    | none => dotl (bol x s) (x.toList.drop s) = x.toList.drop s
  | 0, s, hs, hk => by (first | lia | omega)
  | k + 1, s, hs, hk => by
    unfold find1
    have hbol : bol x (s + 1) = (x.getD s 0 == 10) := by unfold bol; simp
    by_cases h1 : hit1 x s = true
    · rw [if_pos h1]
      unfold hit1 at h1
      rw [Bool.and_eq_true, Bool.and_eq_true, decide_eq_true_eq, beq_iff_eq] at h1
      (refine x0_3 (h1) ?_; try clear h1; intro p1 p2 p3)
      refine ⟨Nat.le_refl _, p2, rfl, ?_⟩
      rw [drop_at p2, p3, p1, hbol, p3]
      simp [dotl]
    · rw [if_neg h1]
      by_cases h2 : s < x.size
      · rw [if_pos h2]
        have ih := find1_spec x k (s + 1) (by ktn_no "om") (by ktn_no "om")
        have hd := drop_at (x := x) (s := s) h2
        have hc : dotl (bol x s) (x.toList.drop s) = x.getD s 0 :: dotl (bol x (s + 1)) (x.toList.drop (s + 1)) := by
          rw [hd, hbol]
          conv => lhs; unfold dotl
          rw [if_neg]
          intro z
          rw [Bool.and_eq_true] at z
          exact h1 (by unfold hit1; rw [z.1, z.2, decide_eq_true h2]; rfl)
        cases hf : find1 x k (s + 1) with
        | none =>
          rw [hf] at ih
          dsimp only at ih ⊢
          rw [hc, ih, ← hd]
        | some p =>
          obtain ⟨a, b⟩ := p
          rw [hf] at ih
          dsimp only at ih ⊢
          (refine x0_4 (ih) ?_; try clear ih; intro q1 q2 q3 e)
          refine ⟨by (first | lia | omega), q2, q3, ?_⟩
          rw [hc, e, hd, show a - s = (a - (s + 1)) + 1 by (first | lia | omega), List.take_succ_cons]
          rfl
      · rw [if_neg h2]
        dsimp only
        rw [List.drop_eq_nil_iff.mpr (by simpa using h2)]
        cases bol x s <;> rfl
theorem sub_dot (x : PySem.Str) : ∀ (k dn : Nat), dn ≤ x.cps.size → x.cps.size + 1 - dn ≤ k → (cat (subGo (find1' x.cps) x dotsS k dn)).cps.toList = dotl (bol x.cps dn) (x.cps.toList.drop dn)
  | 0, dn, h, hk => by (first | lia | omega)
  | k + 1, dn, h, hk => by
    unfold subGo
    have fin : dotl (bol x.cps dn) (x.cps.toList.drop dn) = x.cps.toList.drop dn → (cat (if dn < x.cps.size then [⟨x.cps.extract dn x.cps.size⟩] else [])).cps.toList = dotl (bol x.cps dn) (x.cps.toList.drop dn) := fun e => by
      rw [e]
      by_cases q : dn < x.cps.size
      · rw [if_pos q, cat_cons, ext_list, cat_nil, List.take_of_length_le (by simp)]
        simp
      · rw [if_neg q, cat_nil, List.drop_eq_nil_iff.mpr (by simpa using q)]
    by_cases hlt : dn < x.cps.size
    · have hf : find1' x.cps dn = find1 x.cps (x.cps.size - dn + 1) dn := by unfold find1'; rw [if_pos hlt]
      have sp := find1_spec x.cps (x.cps.size - dn + 1) dn h (by ktn_no "om")
      rw [hf]
      cases hq : find1 x.cps (x.cps.size - dn + 1) dn with
      | none =>
        rw [hq] at sp
        exact fin sp
      | some p =>
        obtain ⟨t, b⟩ := p
        rw [hq] at sp
        (refine x0_4 (sp) ?_; try clear sp; intro a b' eqX2 e; subst eqX2)
        dsimp only
        have ih := sub_dot x k (t + 1) (by ktn_no "om") (by ktn_no "om")
        rw [e]
        by_cases q : dn < t
        · rw [if_pos q]
          show (cat (⟨x.cps.extract dn t⟩ :: dotsS :: _)).cps.toList = _
          rw [cat_cons, cat_cons, ih, dots_list, ext_list]
          rfl
        · rw [if_neg q]
          have : t = dn := by (first | lia | omega)
          subst this
          show (cat (dotsS :: _)).cps.toList = _
          rw [cat_cons, ih, dots_list]
          simp
    · have hf : find1' x.cps dn = none := by unfold find1'; rw [if_neg hlt]
      rw [hf]
      refine fin ?_
      rw [List.drop_eq_nil_iff.mpr (by simpa using hlt)]
      cases bol x.cps dn <;> rfl
theorem sub_count (find : Nat → Option (Nat × Nat)) (x rp : PySem.Str) : ∀ (k dn : Nat), (subGo find x rp k dn).length ≤ 2 * k
  | 0, _ => Nat.zero_le _
  | k + 1, dn => by
    unfold subGo
    split
    · rename_i a b _
      have := sub_count find x rp k b
      split <;> simp <;> (first | lia | omega)
    · split <;> simp <;> (first | lia | omega)
theorem sub_piece (find : Nat → Option (Nat × Nat)) (x rp : PySem.Str) {N : Nat} (h1 : x.length ≤ N) (h2 : rp.length ≤ N) : ∀ (k dn : Nat), ∀ y ∈ subGo find x rp k dn, y.length ≤ N
  | 0, _, y, h => by cases h
  | k + 1, dn, y, h => by
    have he : ∀ a b, ((⟨x.cps.extract a b⟩ : PySem.Str).length) ≤ N := fun a b => by
      show (x.cps.extract a b).size ≤ N
      have : x.length = x.cps.size := rfl
      simp; (first | lia | omega)
    unfold subGo at h
    split at h
    · rename_i a b _
      rcases List.mem_append.mp h with h | h
      · split at h
        · simp at h; rw [h]; exact he _ _
        · cases h
      · rcases List.mem_cons.mp h with rfl | h
        · exact h2
        · exact sub_piece find x rp h1 h2 k b y h
    · split at h
      · simp at h; rw [h]; exact he _ _
      · cases h
theorem crlS_len : ∀ (l : List Nat) (b : Bool), (crlS b l).length ≤ 2 * l.length
  | [], b => by cases b <;> exact Nat.le_refl _
  | c :: r, b => by
    have h1 := crlS_len r false
    have h2 := crlS_len r true
    unfold crlS
    split
    · split <;> simp <;> (first | lia | omega)
    · split <;> simp <;> (first | lia | omega)
theorem quote_fast {x : PySem.Str} (h : x.length ≤ 1000) : QOk x ∧ quoteF x = quoteZ x := by
  have j1 : quote1 x = ⟨(crlS false x.cps.toList).toArray⟩ := by
    unfold quote1
    rw [show Txt.join ⟨#[]⟩ (subGo (find2 x.cps) x crlfS (x.cps.size + 1) 0) = Str.join ⟨#[]⟩ (subGo (find2 x.cps) x crlfS (x.cps.size + 1) 0) from StrLaws.glued_eq_join _ _, join_nil_cat]
    refine str_ext ?_
    rw [sub_crl x _ 0 (Nat.zero_le _) (by ktn_no "om")]
    simp
  have hl1 : (quote1 x).length ≤ 2000 := by
    rw [j1]
    show (crlS false x.cps.toList).toArray.size ≤ 2000
    have := crlS_len x.cps.toList false
    have e : x.length = x.cps.size := rfl
    simp at this ⊢
    (first | lia | omega)
  have j2 : quote2 (quote1 x) = quoteZ x := by
    unfold quote2
    rw [show Txt.join ⟨#[]⟩ (subGo (find1' (quote1 x).cps) (quote1 x) dotsS ((quote1 x).cps.size + 1) 0) = Str.join ⟨#[]⟩ (subGo (find1' (quote1 x).cps) (quote1 x) dotsS ((quote1 x).cps.size + 1) 0) from StrLaws.glued_eq_join _ _, join_nil_cat]
    refine str_ext ?_
    rw [sub_dot _ _ 0 (Nat.zero_le _) (by ktn_no "om"), j1]
    simp [quoteZ, bol]
  have jok : ∀ (find : Nat → Option (Nat × Nat)) (y rp : PySem.Str), y.length ≤ 2000 → rp.length ≤ 2000 → JoinOk ⟨#[]⟩ (subGo find y rp (y.cps.size + 1) 0) = true := fun find y rp hy hr => by
    unfold JoinOk
    rw [StrLaws.joinFits (B := 2000) (fun z hz => sub_piece find y rp hy hr _ _ z hz) (by
      have := sub_count find y rp (y.cps.size + 1) 0
      have e : y.length = y.cps.size := rfl
      have e2 : (⟨#[]⟩ : PySem.Str).length = 0 := rfl
      rw [e2]; (first | lia | omega))]
    rfl
  exact ⟨⟨by (first | lia | omega), jok _ _ _ (by ktn_no "om") (by decide), by (first | lia | omega), jok _ _ _ hl1 (by decide)⟩, j2⟩
section
open Builtin Builtin.Str
section
variable {w : World} {A : Around} {E : Value → Shared → Prop} {h : Heap} {g : Array GenState} {d : Drawn} {tk : Nat} {os : OsState} {x y : PySem.Str} {t u : Tok} {Q : Value → Shared → Prop}
theorem parts_le (x y : PySem.Str) : (Txt.split x y).length ≤ x.length + 2 := by
  unfold Txt.split
  split
  · simp
  · split
    · simp
    · rw [length_partsBetween]
      have := StrLaws.occ_length_le_len x y 0 x.length (x.length + 1)
      (first | lia | omega)
theorem str_split (hy : (y.length == 0) = false) (hx : x.length ≤ 100000)
    (q : ∀ l tk', l.map (·.1) = Txt.split x y → Q (.ref h.objs.size) ⟨h.push ⟨.type "list", none, .seq (strValues l).toArray 0, #[]⟩, g, d, tk', os⟩) :
    wpAny (M w) A (call (.builtin "str.split") [.str x t, .str y u]) Q E ⟨h, g, d, tk, os⟩ := by
  have hsz : x.length ≤ sizeLine := Nat.le_trans hx (by decide)
  cases h1 : (decide (x.length < y.length) || decide (strKind x < strKind y))
  · cases hf : (occurrences x y 0 x.length (x.length + 1)).isEmpty
    · refine call_meets F.slot_str_split (typeIs_str _ _ _) F.entry_str_split (F.args_str_split_2 _ _) (meets_str_split_sep x y t u h1 hy hf hsz ?_) ?_
      · rw [length_partsBetween]
        have := StrLaws.occ_length_le_len x y 0 x.length (x.length + 1)
        exact Nat.le_trans (show _ ≤ 100002 by (first | lia | omega)) (by decide)
      rw [strsFrom_eq]
      exact q (numbered tk _) _ ((numbered_texts _ _).trans ((if_neg (ne_true_of_eq_false h1)).trans (if_neg (ne_true_of_eq_false hf))).symm)
    · exact call_meets F.slot_str_split (typeIs_str _ _ _) F.entry_str_split (F.args_str_split_2 _ _) (meets_str_split_not_found x y t u h1 hy hf)
        (q [(x, t)] _ ((if_neg (ne_true_of_eq_false h1)).trans (if_pos hf)).symm)
  · exact call_meets F.slot_str_split (typeIs_str _ _ _) F.entry_str_split (F.args_str_split_2 _ _) (meets_str_split_cannot_occur x y t u h1)
      (q [(x, t)] _ (if_pos h1).symm)
end

end
theorem isL {h : Heap} {x : Addr} {vs : List Value} {k : Nat} (e : h.get? x = some (lsO vs k)) : h.IsList x vs.toArray := ⟨_, e, rfl, _, rfl⟩
theorem noD {h : Heap} {x : Addr} {vs : List Value} {k : Nat} (e : h.get? x = some (lsO vs k)) : h.NoDictAt (.ref x) := by
  unfold Heap.NoDictAt; exact ⟨_, e, rfl⟩
theorem intsAre : ∀ l : List (Int × Tok), IntsAre (inV l) (l.map (·.1))
  | [] => .nil
  | (k, t) :: l => .cons k t (intsAre l)
theorem mulOk (x : PySem.Str) (n : Nat) (hx : x.length ≤ 100) (hn : n ≤ 1000) : MulOk x n := by
  refine ⟨by simp; (first | lia | omega), fun h1 _ => ?_, fun _ _ => ?_⟩
  · have h2 : (1 : Int) ≤ n := by (first | lia | omega)
    have : (1000 : Int) ≤ (2 ^ 63 - 1) / (n : Int) := by
      refine Int.le_ediv_of_mul_le (by ktn_no "om") ?_
      (first | lia | omega)
    (first | lia | omega)
  · unfold Builtin.Str.tooLong
    rw [Int.toNat_natCast]
    have : x.length * n ≤ 100 * 1000 := Nat.mul_le_mul hx hn
    have hz : (100000 : Nat) ≤ sizeLine := by decide
    simp
    (first | lia | omega)
theorem mul_length (x : PySem.Str) (n : Nat) : (Txt.mul x n).length ≤ x.length * n := by
  unfold Txt.mul
  split
  · exact Nat.zero_le _
  · rename_i h1
    split
    · exact Nat.le_mul_of_pos_right _ (by ktn_no "om")
    · show ((List.replicate ((n : Int).toNat) x.cps).foldl (· ++ ·) #[]).size ≤ _
      rw [Int.toNat_natCast]
      have key : ∀ (k : Nat) (a : Array Nat), ((List.replicate k x.cps).foldl (· ++ ·) a).size = a.size + x.length * k := fun k => by
        induction k with
        | zero => intro a; simp
        | succ k ih => intro a; rw [List.replicate_succ, List.foldl_cons, ih, Array.size_append, Nat.mul_succ]; show a.size + x.length + _ = _; (first | lia | omega)
      rw [key]; simp
section
variable {w : World} {A : Around} {E : Value → Shared → Prop} {s : Shared} {x : PySem.Str} {t u : Tok} {Q : Value → Shared → Prop}
theorem str_mul {n : Nat} (hx : x.length ≤ 100) (hn : n ≤ 1000) (h : ∀ t' k, Q (.str (Txt.mul x n) t') { s with toks := k }) : wpAny (M w) A (binaryOp .Mult (.str x t) (.int n u)) Q E s :=
  SB.mul (mulOk x n hx hn) h
end
theorem ints_of : ∀ (ls : List Value) (f : Nat → Int), (∀ j v, ls[j]? = some v → ∃ t, v = Value.int (f j) t) → ∃ y, ls = inV y ∧ y.map (·.1) = (List.range ls.length).map f
  | [], f, _ => ⟨[], rfl, rfl⟩
  | v :: ls, f, h => by
    obtain ⟨t, rfl⟩ := h 0 v rfl
    obtain ⟨y, hy, he⟩ := ints_of ls (fun j => f (j + 1)) fun j v e => h (j + 1) v (by simpa using e)
    refine ⟨(f 0, t) :: y, by rw [hy]; rfl, ?_⟩
    rw [List.map_cons, he, List.length_cons, List.range_succ_eq_map, List.map_cons, List.map_map]
    rfl
theorem range_getD {α β : Type} (l : List α) (d : α) (f : α → β) : (List.range l.length).map (fun j => f (l.getD j d)) = l.map f := by
  apply List.ext_getElem (by simp)
  intro j h1 h2
  simp at h1
  simp [List.getElem?_eq_getElem h1]
section
variable {w : World} {A : Around} {E : Value → Shared → Prop} {env : Env}
/-- a slice of a list, wherever it is -/
theorem list_sliceI {value : Expr} {lower upper : Option Expr} {p pos : Pos} {Q : Value → Shared → Prop} {s : Shared}
    (q : wpAny (M w) A (eval value env) (fun o s₁ => wpAny (M w) A (evalPart lower env) (fun vl s₂ => wpAny (M w) A (evalPart upper env) (fun vu s₃ =>
      ∃ (B : Heap) (L : Addr) (m : PySem.Str → Option Value) (cl : List (PySem.Str × Addr)) (cm : PySem.Str → Option Value) (news : List (Addr × Obj)) (s₀ : Shared) (x : Addr) (vs : List Value) (lo hi : Option Int), o = .ref x ∧ Fm w B L cl s₀ m cm news s₃ ∧ s₃.heap.IsList x vs.toArray ∧ vs.length ≤ 100000 ∧ IsPart vl lo ∧ IsPart vu hi ∧
        ∀ y h' k, Fm w B L cl s₀ m cm ((y, lsO (slicePick vs.toArray lo hi none).toList k) :: news) ⟨h', s₃.gens, s₃.drawn, s₃.toks, s₃.os⟩ → Q (.ref y) ⟨h', s₃.gens, s₃.drawn, s₃.toks, s₃.os⟩) E s₂) E s₁) E s)
    (ht : ∀ o r, letTemporaryGo value o r = pure () := by intro _ _; rfl) : wpAny (M w) A (eval (.Subscript value (.Slice lower upper none p) pos) env) Q E s := by
  refine wpAny_Subscript_list_slice (wpAny_mono q (fun o s₁ h₁ => wpAny_mono h₁ (fun vl s₂ h₂ => wpAny_mono h₂ (fun vu s₃ h₃ => ?_) fun _ _ z => z) fun _ _ z => z) fun _ _ z => z) ht
  obtain ⟨B, L, m, cl, cm, news, s₀, x, vs, lo, hi, rfl, F, hl, hsz, p1, p2, q⟩ := h₃
  refine ⟨x, vs.toArray, lo, hi, rfl, hl, Nat.le_trans (by simpa using hsz) (show (100000 : Nat) ≤ sizeLine by decide), p1, p2, ?_⟩
  obtain ⟨h₃, g₃, d₃, k₃, o₃⟩ := s₃
  have F₁ := F.push1 (g := g₃) (d := d₃) (tk := k₃) ⟨.type "slice", none, .fields #[vl, vu, .none], #[]⟩
  have F₂ := (F₁.push1 (g := g₃) (d := d₃) (tk := k₃) ⟨.type "list", none, .seq (slicePick vs.toArray lo hi none), #[]⟩).erase 1
  rw [show (h₃.push ⟨.type "slice", none, .fields #[vl, vu, .none], #[]⟩).objs.size = h₃.objs.size + 1 from Heap.size_push _ _] at F₂
  exact q _ _ _ F₂
end
section
variable {w : World} {B : Heap} {L : Addr} {m : PySem.Str → Option Value} {cl : List (PySem.Str × Addr)} {cm : PySem.Str → Option Value} {news : List (Addr × Obj)} {s₀ : Shared} {A : Around} {E : Value → Shared → Prop}
  {h : Heap} {g : Array GenState} {d d₀ : Drawn} {tk tk₀ : Nat} {os : OsState} {env : Env} {x : PySem.Str} {v : Value} {c : Addr}
theorem st_CO {Q : Unit → Shared → Prop} (F : Fm w B L cl s₀ m cm news ⟨h, g, d₀, tk₀, os⟩) (HC : OwnC B cl) (hk : env.scope.kind = .function) (hx : env.kindOf x = some .cell) (hL : env.cells = cl) (hc : (cl.lookup x).isSome = true)
    (q : ∀ h', Fm w B L cl s₀ m (upd cm x v) news ⟨h', g, d, tk, os⟩ → Q () ⟨h', g, d, tk, os⟩) : wpAny (M w) A (storeName env x v) Q E ⟨h, g, d, tk, os⟩ :=
  let ⟨_, hc⟩ := Option.isSome_iff_exists.mp hc; st_C F hk hx hL hc (HC _ _ hc).1 (HC _ _ hc).2 q
end
local macro_rules | `(tactic| ktn_no "x2") => `(tactic| (with_reducible refine st_CO (by assumption) (by assumption) ?a1 ?a2 ?a3 ?a4 (fun _ _ => ?_); (case a1 => kernel_rfl); (case a2 => kernel_rfl!); (case a3 => kernel_rfl); (case a4 => kernel_rfl)))
noncomputable abbrev envLaw (L : Addr) : Env := callEnvC fd_law L a_law
noncomputable abbrev lawSt (i : Nat) : Stmt := body_law.getD i default
theorem inV_of : ∀ {vs : List Value} {ns : List Int}, IntsAre vs ns → ∃ l : List (Int × Tok), vs = inV l ∧ l.map (·.1) = ns
  | _, _, .nil => ⟨[], rfl, rfl⟩
  | _, _, .cons k t h => let ⟨l, a, b⟩ := inV_of h; ⟨(k, t) :: l, by rw [a]; rfl, by rw [← b]; rfl⟩
section
variable {w : World} {B : Heap} {L : Addr} {m cm : PySem.Str → Option Value} {rest : List (Addr × Obj)} {s₀ s : Shared} {A : Around} {n : Nat} {Q : Flow → Shared → Prop}
theorem law_0 {sa : Addr} {vs : List Value} {ns : List Int} (R : Room (n + 20) A) (F : Fm w B L (envLaw L).cells s₀ m cm rest s) (HC : OwnC B (envLaw L).cells) (hB : B.IsList sa vs.toArray) (hI : IntsAre vs ns) (hsz : vs.length ≤ 100) (m1 : m "script" = some (.ref sa))
    (h : ∀ D cs k s', cs.length ≤ 14 → (∀ c ∈ cs, 0 ≤ c.1 ∧ c.1 < 1000000) → Fm w B L (envLaw L).cells s₀ m (upd cm "cells" (.ref D)) ((D, lsO (inV cs) k) :: rest) s' → Q .next s') :
    wpAny (M w) A (exec (lawSt 0) (envLaw L)) Q NoE s := by
  obtain ⟨h₁, g₁, d₁, k₁, o₁⟩ := s
  ktn_no "ast"
  ktn_no "z"
  refine list_compC (B := B) (L := L) (m := m) (cm := cm) (s₀ := s₀) (by kernel_rfl) (by rfl) (by kernel_rfl) (by kernel_rfl) (by kernel_rfl) (fun _ => rfl) ?_
  refine list_sliceI ?_
  ktn_no "z"
  refine evalPart_none_step ?_
  refine evalPart_some_step ?_
  ktn_no "z"
  (refine x1_2 (inV_of hI) ?_; intro l eqX1 hl; subst eqX1)
  refine ⟨_, _, _, _, _, _, _, sa, inV l, none, some (14 : Nat), rfl, F.toks _, ?_, Nat.le_trans hsz (by decide), .none, .int _ _, fun y h₂ ky F₂ => ?_⟩
  · (refine x1_2 (hB) ?_; try clear hB; intro o e r)
    exact ⟨o, F.keep _ _ e, r⟩
  rw [slicePick_upto'] at F₂
  have e0 : ((inV l).toArray.toList.take 14).toArray.toList = inV (l.take 14) := by simp [inV]
  rw [e0] at F₂
  clear F
  dsimp only
  refine iter_list F₂ (i := 0) rfl fun I h₄ F₃ => ?_
  clear F₂
  refine ⟨_, F₃, fun D C s₃ s₄ _ F₄ G => ?_⟩
  have G₁ := G.perm (news' := (I, itO y 0) :: (D, lsO [] 0) :: (y, lsO (inV (l.take 14)) ky) :: rest) (by ktn_no "perm_tac")
  refine comp_simple (steps_seq I y (inV (l.take 14))) (self_seq I y) rfl rfl R.handled (by simp; (first | lia | omega)) (fun j v => ∃ t, v = .int (((l.take 14).getD j default).1.fmod 1000000) t) rfl G₁ (fun m l k s o F => ⟨_, _, F.at 2 rfl, rfl⟩) (fun j v m0 l1 k0 o0 s0 K hj hv G₂ q => ?_) (fun m₅ ls kd s' hl' hv G₃ => ?_)
  · obtain ⟨h, g, d, tk, os⟩ := s0
    have hlt : j < (l.take 14).length := by simpa using hj
    have hv' : v = .int (l.take 14)[j].1 (l.take 14)[j].2 := by
      simp only [inV, List.getElem?_map, List.getElem?_eq_getElem hlt] at hv
      exact (Option.some.inj hv).symm
    subst hv'
    refine wpAny_pure (wpAny_assign_Name ?_)
    refine st_L G₂ (by kernel_rfl) (by kernel_rfl!) (by kernel_rfl) fun h₆ G₃ => ?_
    clear G₁ G₂ G F₄ F₃
    ktn_no "z"
    refine call_int_int ?_
    ktn_no "z"
    refine pow_int_small (by decide) (by decide) (by decide) ?_
    refine mod_int (by decide) ?_
    have hy : ∀ t, ∃ t', Value.int ((l.take 14)[j].1.fmod (10 ^ (6 : Int).toNat)) t = Value.int (((l.take 14).getD j default).1.fmod 1000000) t' := fun t => ⟨t, by
      rw [List.getD_eq_getElem?_getD, List.getElem?_eq_getElem hlt]; rfl⟩
    exact q _ _ _ (hy _) (G₃.toks _)
  · refine ⟨_, _, _, _, G₃, fun s'' F₇ => ?_⟩
    obtain ⟨h₇, g₇, d₇, k₇, o₇⟩ := s''
    (refine x1_2 (ints_of ls _ hv) ?_; intro yl eqX1 hy; subst eqX1)
    clear G G₁ G₃ F₄ F₃
    ktn_no "z"
    rename_i h₈ F₈
    refine h D yl kd _ ?_ ?_ (F₈.sub (((List.sublist_cons_self _ _)).cons₂ _))
    · have := congrArg List.length hy
      simp at this hl'
      (first | lia | omega)
    · intro c hc
      have : c.1 ∈ yl.map (·.1) := List.mem_map_of_mem hc
      rw [hy] at this
      (refine x1_2 (List.mem_map.mp this) ?_; intro j _ hj)
      rw [← hj]
      rw [Int.fmod_eq_emod_of_nonneg _ (by decide)]
      exact ⟨Int.emod_nonneg _ (by decide), Int.emod_lt_of_pos _ (by decide)⟩
end
noncomputable def LiO (l : Addr) (i : Nat) (o : Obj) : Prop := o.cls = .type "list_iterator" ∧ o.data = .fields #[.ref l, .int i 0]
section
variable {w : World} {B : Heap} {L : Addr} {m : PySem.Str → Option Value} {cl : List (PySem.Str × Addr)} {cm : PySem.Str → Option Value} {news : List (Addr × Obj)} {s₀ s : Shared} {A : Around}
  {h : Heap} {g : Array GenState} {d d₀ : Drawn} {tk tk₀ : Nat} {os : OsState}
theorem Fm.freshC {a : Addr} (F : Fm w B L cl s₀ m cm news s) (ha : s.heap.objs.size ≤ a) : a ≠ L ∧ B.get? a = none ∧ szTop ≤ a ∧ a ∉ news.map (·.1) ∧ ∀ n c, cl.lookup n = some c → c ≠ a := by
  refine ⟨fun e => absurd F.ns.lt (by rw [← e]; exact Nat.not_lt.mpr ha), ?_, Nat.le_trans (Nat.le_trans F.szL (Nat.le_of_lt F.ns.lt)) ha, fun q => ?_, fun n c e q => ?_⟩
  · cases q : B.get? a with
    | none => rfl
    | some o => exact absurd (Heap.lt_size (F.keep _ _ q)) (Nat.not_lt.mpr ha)
  · (refine x1_2 (List.mem_map.mp q) ?_; intro p hp e)
    exact absurd (Heap.lt_size (F.nw p hp).1) (by rw [e]; exact Nat.not_lt.mpr ha)
  · exact absurd (F.ce n c e).lt (by rw [q]; exact Nat.not_lt.mpr ha)
theorem Fm.addC {a : Addr} {o : Obj} (F : Fm w B L cl s₀ m cm news s) (hx : s.heap.get? a = some o) (h1 : a ≠ L) (h2 : B.get? a = none) (h3 : szTop ≤ a) (h4 : a ∉ news.map (·.1)) (h5 : ∀ n c, cl.lookup n = some c → c ≠ a) : Fm w B L cl s₀ m cm ((a, o) :: news) s :=
  { F with
    nw := fun p hp => by
      rcases List.mem_cons.mp hp with rfl | hp
      · exact ⟨hx, h1, h2, h3⟩
      · exact F.nw p hp
    nd := List.nodup_cons.mpr ⟨h4, F.nd⟩
    cd := fun n c e => by
      (refine x0_3 (F.cd n c e) ?_; intro a' b c')
      refine ⟨a', fun q => ?_, c'⟩
      rcases List.mem_cons.mp q with q | q
      · exact h5 n c e q
      · exact b q }
theorem enumL_make {l : Addr} {i : Nat} {vs : List Value} {k : Nat} {Q : Value → Shared → Prop} (F : Fm w B L cl s₀ m cm news ⟨h, g, d₀, tk₀, os⟩) (hi : news[i]? = some (l, lsO vs k))
    (q : ∀ E S h' oS, LiO l 0 oS → Fm w B L cl s₀ m cm ((E, enumO S ((0 : Nat) : Int) .none) :: (S, oS) :: news) ⟨h', g, d, tk, os⟩ → Q (.ref E) ⟨h', g, d, tk, os⟩) :
    wpAny (M w) A (call (.type "enumerate") [.ref l]) Q NoE ⟨h, g, d, tk, os⟩ := by
  refine call_enumerate_list (s := ⟨h, g, d, tk, os⟩) (isL (F.at i hi)) fun h' hE hS hz hk => ?_
  (refine x1_2 (hS) ?_; try clear hS; intro oS hS1 hS2)
  have F₁ := Fm.keepAll (d := d) (tk := tk) F hk
  (refine x0_5 (Fm.freshC (a := h.objs.size) F (Nat.le_refl _)) ?_; intro a1 a2 a3 a4 a5)
  (refine x0_5 (Fm.freshC (a := h.objs.size + 1) F (Nat.le_succ _)) ?_; intro b1 b2 b3 b4 b5)
  have F₂ := Fm.addC F₁ hS1 a1 a2 a3 a4 a5
  refine q _ _ h' oS hS2 (Fm.addC F₂ hE b1 b2 b3 ?_ b5)
  rw [List.map_cons, List.mem_cons, not_or]
  exact ⟨Nat.succ_ne_self _, b4⟩
theorem enumL_next {E S l : Addr} {oS : Obj} {vs : List Value} {p : Nat} {v old : Value} {Q : Option Value → Shared → Prop} {Er : Value → Shared → Prop} (F : Fm w B L cl s₀ m cm ((E, enumO S p old) :: (S, oS) :: news) ⟨h, g, d₀, tk₀, os⟩) (ho : LiO l p oS) (hl : h.IsList l vs.toArray) (hv : vs[p]? = some v)
    (q : ∀ T h' tk' t1 oS', LiO l (p + 1) oS' → Fm w B L cl s₀ m cm ((T, tupO [.int p t1, v]) :: (E, enumP S (p + 1 : Nat) v T) :: (S, oS') :: news) ⟨h', g, d, tk', os⟩ → Q (some (.ref T)) ⟨h', g, d, tk', os⟩) :
    wpAny (M w) A (pyNext (.ref E)) Q Er ⟨h, g, d, tk, os⟩ := by
  have hnd := F.nd
  simp only [List.map_cons, List.nodup_cons, List.mem_cons, not_or] at hnd
  refine wpAny_pyNext_enum_item (s := ⟨h, g, d, tk, os⟩) (F.at 0 rfl) ⟨oS, F.at 1 rfl, ho⟩ hl (by simpa using hv) hnd.1.1 fun h' hE' hS' hT hsz hk => ?_
  (refine x1_2 (hS') ?_; try clear hS'; intro oS' hS' hd')
  have F₂ := Fm.set2 (h' := h') (d := d) (tk := tk + 1) F (fun b o h1 h2 e => hk b o h1 h2 e) hE' hS'
  (refine x0_5 (Fm.freshC (a := h.objs.size) F (Nat.le_refl _)) ?_; intro a1 a2 a3 a4 a5)
  exact q _ h' (tk + 1) tk oS' hd' (Fm.addC F₂ hT a1 a2 a3 a4 a5)
theorem enumL_end {E S l : Addr} {oS : Obj} {vs : List Value} {p : Nat} {old : Value} {Q : Option Value → Shared → Prop} {Er : Value → Shared → Prop} (F : Fm w B L cl s₀ m cm ((E, enumO S p old) :: (S, oS) :: news) ⟨h, g, d₀, tk₀, os⟩) (hh : A.handled = none) (ho : LiO l p oS) (hl : h.IsList l vs.toArray) (hv : vs.length = p)
    (q : ∀ h', Fm w B L cl s₀ m cm ((E, enumO S p old) :: news) ⟨h', g, d, tk, os⟩ → Q none ⟨h', g, d, tk, os⟩) :
    wpAny (M w) A (pyNext (.ref E)) Q Er ⟨h, g, d, tk, os⟩ := by
  refine wpAny_pyNext_enum_end (s := ⟨h, g, d, tk, os⟩) hh (F.at 0 rfl) ⟨oS, F.at 1 rfl, ho⟩ hl (by simp [hv]) fun h' he' => ?_
  have F₁ := F.perm (news' := (S, oS) :: (E, enumO S p old) :: news) (by ktn_no "perm_tac")
  exact q h' (Fm.lose (s := ⟨h, g, d, tk, os⟩) F₁.withD fun b ob hb e => he' b ob hb e)
end
section
variable {w : World} {B : Heap} {C : Addr} {cl : List (PySem.Str × Addr)} {s₀ : Shared} {A : Around} {n : Nat} {it : Value}
  {elt target iter : Expr} {ifs : List Expr} {gens : List Comprehension} {scope : Scope} {pos : Pos} {acc : Value} {d : Nat} {env : Env} {Q : Shared → Prop}
  {Inv : Nat → (PySem.Str → Option Value) → (PySem.Str → Option Value) → List (Addr × Obj) → Prop} {Mid : Nat → Value → (PySem.Str → Option Value) → (PySem.Str → Option Value) → List (Addr × Obj) → Prop} {End : (PySem.Str → Option Value) → (PySem.Str → Option Value) → List (Addr × Obj) → Prop}
theorem comp_runG (hg : gens[d]? = some ⟨target, iter, ifs, 0⟩) (hn : gens[d + 1]? = none)
    (next : ∀ i m cm news s (Q' : Option Value → Shared → Prop), i < n → Inv i m cm news → Fm w B C cl s₀ m cm news s → (∀ v news' s', Mid i v m cm news' → Fm w B C cl s₀ m cm news' s' → Q' (some v) s') → wpAny (M w) A (pyNext it) Q' NoE s)
    (fin : ∀ m cm news s (Q' : Option Value → Shared → Prop), Inv n m cm news → Fm w B C cl s₀ m cm news s → (∀ news' s', End m cm news' → Fm w B C cl s₀ m cm news' s' → Q' none s') → wpAny (M w) A (pyNext it) Q' NoE s)
    (body : ∀ i v m cm news s (K : Shared → Prop), i < n → Mid i v m cm news → Fm w B C cl s₀ m cm news s →
      (∀ m' cm' news' s', Inv (i + 1) m' cm' news' → Fm w B C cl s₀ m' cm' news' s' → K s') →
      wpAny (M w) A (letOwnedTupleGo target it v) (fun _ s₁' => wpAny (M w) A (assign target env v) (fun _ s₂ => wpAny (M w) A (ifsOk env ifs) (fun ok s₃ =>
          if ok = true then wpAny (M w) A (eval elt env) (fun y s₄ => wpAny (M w) A (call (.builtin "list.append") [acc, y]) (fun _ s₅ => K s₅) NoE s₄) NoE s₃
          else K s₃) NoE s₂) NoE s₁') NoE s) :
    ∀ (k i : Nat) (m cm : PySem.Str → Option Value) (news : List (Addr × Obj)) (s : Shared), i + k = n → Inv i m cm news → Fm w B C cl s₀ m cm news s →
      (∀ m' cm' news' s', End m' cm' news' → Fm w B C cl s₀ m' cm' news' s' → Q s') → CompC w A (.ListComp elt gens scope pos) d it acc env Q s
  | 0, i, m, cm, news, s, hi, hv, F, hq => by
    refine comp_step hg hn (fin m cm news s _ (by rw [show n = i by (first | lia | omega)]; exact hv) F fun news' s' he F' => hq _ _ _ _ he F')
  | k + 1, i, m, cm, news, s, hi, hv, F, hq => by
    refine comp_step hg hn (next i m cm news s _ (by ktn_no "om") hv F fun v news' s' hm F' => ?_)
    refine body i v m cm news' s' _ (by ktn_no "om") hm F' fun m'' cm'' news'' s'' hv'' F'' => ?_
    exact comp_runG hg hn next fin body k (i + 1) m'' cm'' news'' s'' (by ktn_no "om") hv'' F'' hq
theorem comp_runG2 {target' iter' : Expr} {ifs' : List Expr} (hg : gens[d]? = some ⟨target, iter, ifs, 0⟩) (hn : gens[d + 1]? = some ⟨target', iter', ifs', 0⟩) (hf : ∀ x, foldedSetIterable iter' env x = pure x)
    (next : ∀ i m cm news s (Q' : Option Value → Shared → Prop), i < n → Inv i m cm news → Fm w B C cl s₀ m cm news s → (∀ v news' s', Mid i v m cm news' → Fm w B C cl s₀ m cm news' s' → Q' (some v) s') → wpAny (M w) A (pyNext it) Q' NoE s)
    (fin : ∀ m cm news s (Q' : Option Value → Shared → Prop), Inv n m cm news → Fm w B C cl s₀ m cm news s → (∀ news' s', End m cm news' → Fm w B C cl s₀ m cm news' s' → Q' none s') → wpAny (M w) A (pyNext it) Q' NoE s)
    (body : ∀ i v m cm news s (K : Shared → Prop), i < n → Mid i v m cm news → Fm w B C cl s₀ m cm news s →
      (∀ m' cm' news' s', Inv (i + 1) m' cm' news' → Fm w B C cl s₀ m' cm' news' s' → K s') →
      wpAny (M w) A (letOwnedTupleGo target it v) (fun _ s₁' => wpAny (M w) A (assign target env v) (fun _ s₂ => wpAny (M w) A (ifsOk env ifs) (fun ok s₃ =>
          if ok = true then wpAny (M w) A (eval iter' env) (fun x s₄ => wpAny (M w) A (pyIter x) (fun it' s₅ => CompS w A (.ListComp elt gens scope pos) (d + 1) it' acc env K s₅) NoE s₄) NoE s₃
          else K s₃) NoE s₂) NoE s₁') NoE s) :
    ∀ (k i : Nat) (m cm : PySem.Str → Option Value) (news : List (Addr × Obj)) (s : Shared), i + k = n → Inv i m cm news → Fm w B C cl s₀ m cm news s →
      (∀ m' cm' news' s', End m' cm' news' → Fm w B C cl s₀ m' cm' news' s' → Q s') → CompC w A (.ListComp elt gens scope pos) d it acc env Q s
  | 0, i, m, cm, news, s, hi, hv, F, hq => by
    refine comp_outer hg hn hf (fin m cm news s _ (by rw [show n = i by (first | lia | omega)]; exact hv) F fun news' s' he F' => hq _ _ _ _ he F')
  | k + 1, i, m, cm, news, s, hi, hv, F, hq => by
    refine comp_outer hg hn hf (next i m cm news s _ (by ktn_no "om") hv F fun v news' s' hm F' => ?_)
    refine body i v m cm news' s' _ (by ktn_no "om") hm F' fun m'' cm'' news'' s'' hv'' F'' => ?_
    exact comp_runG2 hg hn hf next fin body k (i + 1) m'' cm'' news'' s'' (by ktn_no "om") hv'' F'' hq
theorem comp_allG (hg : gens[d]? = some ⟨target, iter, ifs, 0⟩) (hn : gens[d + 1]? = none)
    (self : ∀ (s : Shared) (Q' : Value → Shared → Prop), (∃ m cm news, Inv 0 m cm news ∧ Fm w B C cl s₀ m cm news s) → Q' it s → wpAny (M w) A (pyIter it) Q' NoE s)
    (next : ∀ i m cm news s (Q' : Option Value → Shared → Prop), i < n → Inv i m cm news → Fm w B C cl s₀ m cm news s → (∀ v news' s', Mid i v m cm news' → Fm w B C cl s₀ m cm news' s' → Q' (some v) s') → wpAny (M w) A (pyNext it) Q' NoE s)
    (fin : ∀ m cm news s (Q' : Option Value → Shared → Prop), Inv n m cm news → Fm w B C cl s₀ m cm news s → (∀ news' s', End m cm news' → Fm w B C cl s₀ m cm news' s' → Q' none s') → wpAny (M w) A (pyNext it) Q' NoE s)
    (body : ∀ i v m cm news s (K : Shared → Prop), i < n → Mid i v m cm news → Fm w B C cl s₀ m cm news s →
      (∀ m' cm' news' s', Inv (i + 1) m' cm' news' → Fm w B C cl s₀ m' cm' news' s' → K s') →
      wpAny (M w) A (letOwnedTupleGo target it v) (fun _ s₁' => wpAny (M w) A (assign target env v) (fun _ s₂ => wpAny (M w) A (ifsOk env ifs) (fun ok s₃ =>
          if ok = true then wpAny (M w) A (eval elt env) (fun y s₄ => wpAny (M w) A (call (.builtin "list.append") [acc, y]) (fun _ s₅ => K s₅) NoE s₄) NoE s₃
          else K s₃) NoE s₂) NoE s₁') NoE s)
    {m cm : PySem.Str → Option Value} {news : List (Addr × Obj)} {s : Shared} (hv : Inv 0 m cm news) (F : Fm w B C cl s₀ m cm news s)
    (hq : ∀ m' cm' news' s', End m' cm' news' → Fm w B C cl s₀ m' cm' news' s' → Q s') : CompS w A (.ListComp elt gens scope pos) d it acc env Q s := by
  have run := comp_runG (acc := acc) (scope := scope) (pos := pos) hg hn next fin body n 0 m cm news s (by ktn_no "om") hv F hq
  exact comp_start hg run (self s _ ⟨m, cm, news, hv, F⟩ run)
theorem comp_allG2 {target' iter' : Expr} {ifs' : List Expr} (hg : gens[d]? = some ⟨target, iter, ifs, 0⟩) (hn : gens[d + 1]? = some ⟨target', iter', ifs', 0⟩) (hf : ∀ x, foldedSetIterable iter' env x = pure x)
    (self : ∀ (s : Shared) (Q' : Value → Shared → Prop), (∃ m cm news, Inv 0 m cm news ∧ Fm w B C cl s₀ m cm news s) → Q' it s → wpAny (M w) A (pyIter it) Q' NoE s)
    (next : ∀ i m cm news s (Q' : Option Value → Shared → Prop), i < n → Inv i m cm news → Fm w B C cl s₀ m cm news s → (∀ v news' s', Mid i v m cm news' → Fm w B C cl s₀ m cm news' s' → Q' (some v) s') → wpAny (M w) A (pyNext it) Q' NoE s)
    (fin : ∀ m cm news s (Q' : Option Value → Shared → Prop), Inv n m cm news → Fm w B C cl s₀ m cm news s → (∀ news' s', End m cm news' → Fm w B C cl s₀ m cm news' s' → Q' none s') → wpAny (M w) A (pyNext it) Q' NoE s)
    (body : ∀ i v m cm news s (K : Shared → Prop), i < n → Mid i v m cm news → Fm w B C cl s₀ m cm news s →
      (∀ m' cm' news' s', Inv (i + 1) m' cm' news' → Fm w B C cl s₀ m' cm' news' s' → K s') →
      wpAny (M w) A (letOwnedTupleGo target it v) (fun _ s₁' => wpAny (M w) A (assign target env v) (fun _ s₂ => wpAny (M w) A (ifsOk env ifs) (fun ok s₃ =>
          if ok = true then wpAny (M w) A (eval iter' env) (fun x s₄ => wpAny (M w) A (pyIter x) (fun it' s₅ => CompS w A (.ListComp elt gens scope pos) (d + 1) it' acc env K s₅) NoE s₄) NoE s₃
          else K s₃) NoE s₂) NoE s₁') NoE s)
    {m cm : PySem.Str → Option Value} {news : List (Addr × Obj)} {s : Shared} (hv : Inv 0 m cm news) (F : Fm w B C cl s₀ m cm news s)
    (hq : ∀ m' cm' news' s', End m' cm' news' → Fm w B C cl s₀ m' cm' news' s' → Q s') : CompS w A (.ListComp elt gens scope pos) d it acc env Q s := by
  have run := comp_runG2 (acc := acc) (scope := scope) (pos := pos) hg hn hf next fin body n 0 m cm news s (by ktn_no "om") hv F hq
  exact comp_start hg run (self s _ ⟨m, cm, news, hv, F⟩ run)
end
theorem slicePick_mem (items : Array Value) (lo hi st : Option Int) : ∀ v ∈ (slicePick items lo hi st).toList, v ∈ items.toList := by
  intro v hv
  unfold slicePick at hv
  simp only [List.mem_filterMap, Array.toList_filterMap, List.toList_toArray, List.mem_toArray] at hv
  (refine x1_2 (hv) ?_; try clear hv; intro i _ hi)
  exact List.mem_of_getElem? (by rw [Array.getElem?_toList]; exact hi)
section
variable {w : World} {B : Heap} {L : Addr} {m cm : PySem.Str → Option Value} {cl : List (PySem.Str × Addr)} {news rest : List (Addr × Obj)} {s₀ s : Shared} {A : Around} {n : Nat}
  {h : Heap} {g : Array GenState} {d d₀ : Drawn} {tk tk₀ : Nat} {os : OsState}
theorem sum_ints {l : Addr} {xs : List (Int × Tok)} {Q : Value → Shared → Prop} (F : Fm w B L cl s₀ m cm news ⟨h, g, d₀, tk₀, os⟩) (hh : A.handled = none) (hl : h.IsList l (inV xs).toArray)
    (q : ∀ t h' tk', Fm w B L cl s₀ m cm news ⟨h', g, d, tk', os⟩ → Q (.int (xs.map (·.1)).sum t) ⟨h', g, d, tk', os⟩) : wpAny (M w) A (call (.builtin "sum") [.ref l]) Q NoE ⟨h, g, d, tk, os⟩ := by
  have hi := intsAre xs
  obtain ⟨ys, hx⟩ := hi.allInts.items
  have hn : numsOf (inV xs).toArray.toList = xs.map (·.1) := by rw [show (inV xs).toArray.toList = inV xs from rfl, hi.numsOf]
  rw [hx] at hl hn
  rw [nums_intItems] at hn
  refine sum_intListG (s := ⟨h, g, d, tk, os⟩) hh hl fun h' tk' t' hk => ?_
  have := q t' h' tk' (Fm.keepAll F hk)
  rw [preSum_eq, List.take_of_length_le (by simp), hn]
  exact this
theorem slice_tail3 {E : Value → Shared → Prop} {a sl : Addr} {vs : List Value} {k : Nat} {value slice : Expr} {vl vu vst : Value} {lo hi st : Option Int} {Q : Value → Shared → Prop}
    (F : Fm w B L cl s₀ m cm news ⟨h, g, d₀, tk₀, os⟩) (hl' : h.get? a = some (lsO vs k)) (hs : h.get? sl = some (slO vl vu vst)) (p1 : IsPart vl lo) (p2 : IsPart vu hi) (p3 : IsPart vst st) (h0 : st ≠ some 0) (hsz : vs.length ≤ 100000)
    (q : ∀ y h' k, Fm w B L cl s₀ m cm ((y, lsO (slicePick vs.toArray lo hi st).toList k) :: news) ⟨h', g, d, tk, os⟩ → Q (.ref y) ⟨h', g, d, tk, os⟩)
    (hss : subscripted slice false (.ref a) (.ref sl) = operate [.ref a, .ref sl] (getItem (.ref a) (.ref sl)) := by with_unfolding_all rfl) :
    wpAny (M w) A (subscriptTail value slice (.ref a) (.ref sl)) Q E ⟨h, g, d, tk, os⟩ := by
  have hl := isL hl'
  refine sub_tail hl.typeIs slot_list_getitem.lookup (fun _ _ _ h => wpAny_letTemporaryGo h) (wpAny_getItem_list_slice hl ⟨_, hs, rfl, rfl⟩ p1 p2 p3 h0 ?_ (Nat.le_trans (by simpa using hsz) (show (100000 : Nat) ≤ sizeLine by decide))) hss
  have F₂ := F.push1 (g := g) (d := d) (tk := tk) ⟨.type "list", none, .seq (slicePick vs.toArray lo hi st), #[]⟩
  exact q _ _ _ F₂
theorem law_1 {Q : Flow → Shared → Prop} {D : Addr} {cs : List (Int × Tok)} {k : Nat} (R : Room (n + 20) A) (F : Fm w B L (envLaw L).cells s₀ m cm rest s) (HC : OwnC B (envLaw L).cells) (hD : (D, lsO (inV cs) k) ∈ rest) (hlen : cs.length ≤ 14) (hcs : ∀ c ∈ cs, 0 ≤ c.1)
    (c1 : cm "cells" = some (.ref D))
    (h : ∀ N ns k' s', ns.length = 7 → (∀ c ∈ ns, 0 ≤ c.1) → Fm w B L (envLaw L).cells s₀ (upd m "numbers" (.ref N)) cm ((N, lsO (inV ns) k') :: rest) s' → Q .next s') :
    wpAny (M w) A (exec (lawSt 1) (envLaw L)) Q NoE s := by
  obtain ⟨h₁, g₁, d₁, k₁, o₁⟩ := s
  ktn_no "ast"
  refine list_comp_toC (B := B) (L := L) (m := m) (cm := cm) (s₀ := s₀) (by kernel_rfl) (by kernel_rfl) (by rfl) (by kernel_rfl) (by kernel_rfl) (by kernel_rfl) (fun _ => rfl) (by kernel_rfl) (by kernel_rfl) (by kernel_rfl) ?_
  ktn_no "z"
  refine st_newList (by simp) ?_
  obtain ⟨bl, hbl, hb0, hbn⟩ : ∃ bl : List (Int × Tok), inV bl = [Value.int 8 k₁, Value.int 22 (k₁ + 1), Value.int 15 (k₁ + 1 + 1), Value.int 30 (k₁ + 1 + 1 + 1), Value.int 14 (k₁ + 1 + 1 + 1 + 1), Value.int 12 (k₁ + 1 + 1 + 1 + 1 + 1), Value.int 5 (k₁ + 1 + 1 + 1 + 1 + 1 + 1)] ∧ bl.length = 7 ∧ ∀ c ∈ bl, 0 ≤ c.1 :=
    ⟨[(8, k₁), (22, k₁ + 1), (15, k₁ + 1 + 1), (30, k₁ + 1 + 1 + 1), (14, k₁ + 1 + 1 + 1 + 1), (12, k₁ + 1 + 1 + 1 + 1 + 1), (5, k₁ + 1 + 1 + 1 + 1 + 1 + 1)], rfl, rfl, by simp⟩
  rw [← hbl]
  have F₂ := F.push1 (g := g₁) (d := d₁) (tk := k₁ + 7) (lsO (inV bl) 0)
  clear F
  ktn_no "z"
  refine enumL_make F₂ (i := 0) rfl fun E S h₃ oS hoS F₃ => ?_
  clear F₂
  refine wpAny_pyIter_enum (F₃.at 0 rfl) ?_
  refine ⟨_, F₃.toks _, fun D' C s₃ s₄ _ F₄ G => ?_⟩
  have G₁ := G.perm (news' := (E, enumO S ((0 : Nat) : Int) .none) :: (S, oS) :: (D', lsO [] 0) :: (h₁.objs.size, lsO (inV bl) 0) :: rest) (by ktn_no "perm_tac")
  refine comp_allG (n := 7)
    (Inv := fun i m cm' news => cm' = cm ∧ ∃ old oS l kd, news = (E, enumO S (i : Nat) old) :: (S, oS) :: (D', lsO (inV l) kd) :: (h₁.objs.size, lsO (inV bl) 0) :: rest ∧ LiO h₁.objs.size i oS ∧ l.length = i ∧ ∀ c ∈ l, 0 ≤ c.1)
    (Mid := fun i v m cm' news => cm' = cm ∧ ∃ (T : Addr) (oS : Obj) (l : List (Int × Tok)) (kd : Nat) (t1 : Tok) (b : Int × Tok), v = .ref T ∧ 0 ≤ b.1 ∧ news = (T, tupO [.int (i : Nat) t1, .int b.1 b.2]) :: (E, enumP S (i + 1 : Nat) (.int b.1 b.2) T) :: (S, oS) :: (D', lsO (inV l) kd) :: (h₁.objs.size, lsO (inV bl) 0) :: rest ∧ LiO h₁.objs.size (i + 1) oS ∧ l.length = i ∧ ∀ c ∈ l, 0 ≤ c.1)
    (End := fun m cm' news => cm' = cm ∧ ∃ o l kd, news = (E, o) :: (D', lsO (inV l) kd) :: (h₁.objs.size, lsO (inV bl) 0) :: rest ∧ l.length = 7 ∧ ∀ c ∈ l, 0 ≤ c.1)
    rfl rfl (fun s Q' hh q => by rcases hh with ⟨_, _, _, ⟨_, _, _, _, _, e, _⟩, F⟩; subst e; exact wpAny_pyIter_enum (F.at 0 rfl) q)
    (fun i m cm' news s Q' hi hv F q => by
      (refine y4_4 (hv) ?_; try clear hv; intro eqX0 old oS l kd eqX5 hoS hl hp; subst eqX0; subst eqX5)
      obtain ⟨h, g, d, tk, os⟩ := s
      have hbi : (inV bl)[i]? = some (.int (bl[i]'(by ktn_no "om")).1 (bl[i]'(by ktn_no "om")).2) := by simp [List.getElem?_eq_getElem (show i < bl.length by (first | lia | omega))]
      refine enumL_next F hoS (isL (F.at 3 rfl)) hbi fun T h' tk' t1 oS' hoS' F' => ?_
      exact q _ _ _ ⟨rfl, T, oS', l, kd, t1, bl[i]'(by ktn_no "om"), rfl, hbn _ (List.getElem_mem _), rfl, hoS', hl, hp⟩ F')
    (fun m cm' news s Q' hv F q => by
      (refine y4_4 (hv) ?_; try clear hv; intro eqX0 old oS l kd eqX5 hoS hl hp; subst eqX0; subst eqX5)
      obtain ⟨h, g, d, tk, os⟩ := s
      refine enumL_end F R.handled hoS (isL (F.at 3 rfl)) (by simp [hb0]) fun h' F' => ?_
      exact q _ _ ⟨rfl, _, l, kd, rfl, hl, hp⟩ F')
    (fun i v m cm' news s K hi hv F q => by
      (refine y6_6 (hv) ?_; try clear hv; intro eqX0 T oS l kd t1 b eqX7 hb eqX9 hoS hl hp; subst eqX0; subst eqX7; subst eqX9)
      obtain ⟨h, g, d, tk, os⟩ := s
      refine enum_go F fun h₅ F₅ => ?_
      refine assign_pair F₅ R.handled (F₅.at 0 rfl) (by kernel_rfl) (by kernel_rfl) (by kernel_rfl) (by kernel_rfl) fun h₆ k₆ F₆ => ?_
      clear F F₅ G G₁ F₃ F₄
      replace F₆ := F₆.drop 1
      dsimp only [List.drop] at F₆
      have hD' := (F₆.nw _ (show (D, lsO (inV cs) k) ∈ _ from .tail _ (.tail _ (.tail _ (.tail _ hD))))).1
      refine wpAny_tests_nil ?_
      rw [if_pos rfl]
      ktn_no "z"
      refine wpAny_Slice ?_
      refine evalPart_some_step ?_
      ktn_no "z"
      refine evalPart_none_step ?_
      refine evalPart_some_step ?_
      ktn_no "z"
      have F₇ := fun t => F₆.push1 (g := g) (d := d) (tk := k₆) (slO (.int (i : Nat) t1) .none (.int 7 t))
      have hslt : h₆.objs.size ≠ D := fun e => absurd (Heap.lt_size hD') (by rw [← e]; exact Nat.lt_irrefl _)
      refine slice_tail3 (F₇ _) (Heap.get?_push_of_some _ hD') ((F₇ _).at 0 rfl) (.int _ _) .none (.int _ _) (by simp) (by simp; (first | lia | omega)) fun y h₈ ky F₈ => ?_
      (refine x1_2 (inV_of (IntsAre.pick (intsAre cs) (some ((i : Nat) : Int)) none (some 7))) ?_; intro xs hxs hxn)
      rw [hxs] at F₈
      have hxp : 0 ≤ (xs.map (·.1)).sum := by
        have hm : ∀ c ∈ xs, 0 ≤ c.1 := fun c hc => by
          have : Value.int c.1 c.2 ∈ inV cs := by
            have := slicePick_mem (inV cs).toArray (some ((i : Nat) : Int)) none (some 7) (.int c.1 c.2) (by rw [hxs]; exact List.mem_map_of_mem (f := fun p : Int × Tok => Value.int p.1 p.2) hc)
            simpa using this
          (refine x1_2 (List.mem_map.mp this) ?_; intro c' hc' e)
          have e1 : c'.1 = c.1 := by injection e
          rw [← e1]
          exact hcs _ hc'
        clear hxs hxn F₈
        induction xs with
        | nil => simp
        | cons a xs ih =>
          have h1 := hm a (.head _)
          have h2 := ih fun c hc => hm c (.tail _ hc)
          simp only [List.map_cons, List.sum_cons]
          (first | lia | omega)
      clear F₆ F₇
      ktn_no "z"
      refine sum_ints F₈ R.handled (isL (F₈.at 0 rfl)) fun t₉ h₉ k₉ F₉ => ?_
      ktn_no "z"
      have F₁₀ := F₉.drop 2
      dsimp only [List.drop] at F₁₀
      refine app_at 2 F₁₀ rfl (by simp; (first | lia | omega)) fun h₁₁ F₁₁ => ?_
      dsimp only [List.set] at F₁₁
      refine q _ _ ((E, enumO S (i + 1 : Nat) _) :: (S, oS) :: (D', lsO (inV (l ++ [(b.1 + (xs.map (·.1)).sum, k₉)])) (kd + 1)) :: (h₁.objs.size, lsO (inV bl) 0) :: rest) _ ⟨rfl, _, _, _, _, rfl, hoS, by simp [hl], fun c hc => ?_⟩ (by simpa [inV] using F₁₁)
      rcases List.mem_append.mp hc with hc | hc
      · exact hp c hc
      · simp at hc
        rw [hc]
        show 0 ≤ b.1 + (xs.map (·.1)).sum
        (first | lia | omega)) ⟨rfl, _, oS, [], 0, rfl, hoS, rfl, by simp⟩ G₁ ?_
  rintro m' cm' news' s' ⟨rfl, o, l, kd, rfl, hl, hp⟩ G₂
  refine ⟨_, _, _, _, G₂, fun s'' F₇ => ?_⟩
  exact h D' l kd _ hl hp (F₇.sub ((((List.sublist_cons_self _ _)).cons₂ _).cons _))
end
/-- all objects of a heap but one -/
noncomputable def allBut (h : Heap) (L : Addr) : List (Addr × Obj) := (List.range h.objs.size).filterMap fun a => if a = L then none else (h.get? a).map fun o => (a, o)
theorem mem_allBut {h : Heap} {L : Addr} {p : Addr × Obj} : p ∈ allBut h L ↔ p.1 ≠ L ∧ h.get? p.1 = some p.2 := by
  obtain ⟨a, o⟩ := p
  unfold allBut
  rw [List.mem_filterMap]
  constructor
  · rintro ⟨b, _, e⟩
    split at e
    · cases e
    · rename_i hb
      cases q : h.get? b with
      | none => rw [q] at e; cases e
      | some o' => rw [q] at e; cases e; exact ⟨hb, q⟩
  · rintro ⟨h1, h2⟩
    exact ⟨a, List.mem_range.mpr (Heap.lt_size h2), by rw [if_neg h1]; show (h.get? a).map _ = _; rw [h2]; rfl⟩
theorem empty_get (b : Addr) : ({} : Heap).get? b = none := by
  cases q : ({} : Heap).get? b with
  | none => rfl
  | some o => exact absurd (Heap.lt_size q) (Nat.not_lt_zero _)
section
variable {w : World} {B : Heap} {L : Addr} {m : PySem.Str → Option Value} {cl : List (PySem.Str × Addr)} {cm : PySem.Str → Option Value} {news : List (Addr × Obj)} {s₀ s : Shared} {A : Around}
  {h : Heap} {g : Array GenState} {d d₀ : Drawn} {tk tk₀ : Nat} {os : OsState}
theorem Fm.fr (F : Fm w B L cl s₀ m cm news s) : Fr {} L s.heap m := ⟨F.ns, (fun b o e => by rw [empty_get] at e; cases e), Nat.zero_le _⟩
theorem Fm.nws (_ : Fm w B L cl s₀ m cm news s) : PyProof.Rows.News {} L s.heap (allBut s.heap L) := fun p hp => ⟨(mem_allBut.mp hp).2, (mem_allBut.mp hp).1, empty_get _⟩
/-- a rule over frames and news, used on a frame of ours -/
theorem Fm.back {h' : Heap} {all : List (Addr × Obj)} (F : Fm w B L cl s₀ m cm news ⟨h, g, d₀, tk₀, os⟩) (F' : Fr {} L h' m) (N : PyProof.Rows.News {} L h' all) (hs : ∀ p ∈ allBut h L, p ∈ all) : Fm w B L cl s₀ m cm news ⟨h', g, d, tk, os⟩ := by
  have k : ∀ b o, b ≠ L → h.get? b = some o → h'.get? b = some o := fun b o hb e => (N (b, o) (hs _ (mem_allBut.mpr ⟨hb, e⟩))).1
  have bL : ∀ b o, B.get? b = some o → b ≠ L := fun b o e q => by rw [q, F.above.1] at e; cases e
  have tL : ∀ t, t < szTop → t ≠ L := fun t ht e => absurd F.szL (Nat.not_le.mpr (e ▸ ht))
  have eb : Heap.ExtBut L h h' := k
  have tb : TabOk h' := by
    (refine x1_2 (F.tb.a) ?_; intro ps a1 a2)
    (refine x1_2 (F.tb.b) ?_; intro qs b1 b2)
    exact ⟨⟨ps, a1.extBut eb (tL _ (by decide)) (tL _ (by decide)), a2.extBut eb (tL _ (by decide)) (tL _ (by decide))⟩,
      ⟨qs, b1.extBut eb (tL _ (by decide)) (tL _ (by decide)), b2.extBut eb (tL _ (by decide)) (tL _ (by decide))⟩⟩
  exact {
    wf := F.wf
    ns := F'.ns
    keep := fun b o e => k b o (bL b o e) (F.keep b o e)
    above := F.above
    nw := fun p hp => let ⟨a, b, c⟩ := F.nw p hp; ⟨k _ _ b a, b, c⟩
    nd := F.nd
    ce := fun n c e => by
      (refine x1_2 (F.ce n c e) ?_; intro o ho hd)
      exact ⟨o, k _ _ (F.cd n c e).1 ho, hd⟩
    cd := F.cd
    cp := F.cp
    tb := tb
    rl := ⟨F.rl.os, F.rl.gens, F.rl.bare, fun t ht ps e => by
      obtain ⟨mo, e'⟩ := F.rl.tg t ht ps e
      exact ⟨mo, k _ _ (tL t (tab_lt ht)) e'⟩, trivial⟩ }
theorem foldl_max_le (l : List Int) : ∀ a : Int, a ≤ l.foldl max a ∧ ∀ x ∈ l, x ≤ l.foldl max a := by
  induction l with
  | nil => intro a; exact ⟨Int.le_refl _, fun x h => by simp at h⟩
  | cons b l ih =>
    intro a
    obtain ⟨h1, h2⟩ := ih (max a b)
    rw [List.foldl_cons]
    refine ⟨by (first | lia | omega), fun x hx => ?_⟩
    rcases List.mem_cons.mp hx with rfl | hx
    · (first | lia | omega)
    · exact h2 x hx
theorem foldl_max_mem (l : List Int) : ∀ a : Int, l.foldl max a = a ∨ l.foldl max a ∈ l := by
  induction l with
  | nil => intro a; exact .inl rfl
  | cons b l ih =>
    intro a
    rw [List.foldl_cons]
    rcases ih (max a b) with h | h
    · rw [h]
      rcases Int.le_total a b with q | q
      · rw [Int.max_eq_right q]; exact .inr (.head _)
      · rw [Int.max_eq_left q]; exact .inl rfl
    · exact .inr (.tail _ h)
theorem foldl_max_is {a M : Int} {l : List Int} (h1 : M ∈ a :: l) (h2 : ∀ x ∈ a :: l, x ≤ M) : M = l.foldl max a := by
  obtain ⟨h3, h4⟩ := foldl_max_le l a
  have h5 : l.foldl max a ∈ a :: l := by
    rcases foldl_max_mem l a with e | e
    · rw [e]; exact .head _
    · exact .tail _ e
  have := h2 _ h5
  rcases List.mem_cons.mp h1 with rfl | h1
  · (first | lia | omega)
  · have := h4 _ h1; (first | lia | omega)
theorem max_ints {l : Addr} {xs : List (Int × Tok)} {a : Int} {ns : List Int} {Q : Value → Shared → Prop} {E : Value → Shared → Prop} (F : Fm w B L cl s₀ m cm news ⟨h, g, d₀, tk₀, os⟩) (hh : A.handled = none) (hl : h.IsList l (inV xs).toArray) (hx : xs.map (·.1) = a :: ns)
    (q : ∀ t h' tk', Fm w B L cl s₀ m cm news ⟨h', g, d, tk', os⟩ → Q (.int (ns.foldl max a) t) ⟨h', g, d, tk', os⟩) : wpAny (M w) A (call (.builtin "max") [.ref l]) Q E ⟨h, g, d, tk, os⟩ := by
  refine max_list_N (s := ⟨h, g, d, tk, os⟩) (h₀ := {}) (L := L) (m := m) (news := allBut h L) hh (Fm.fr (F.withD (d := d) (tk := tk))) (Fm.nws (F.withD (d := d) (tk := tk))) hl (intsAre xs) (by rw [hx]; exact Nat.succ_pos _) fun h' M t tk' F' N' h1 h2 => ?_
  rw [hx] at h1 h2
  rw [foldl_max_is h1 h2]
  exact q _ _ _ (F.back F' N' fun p hp => hp)
theorem add_list {l b : Addr} {vs ws : List Value} {k1 k2 : Nat} {Q : Value → Shared → Prop} {E : Value → Shared → Prop} (F : Fm w B L cl s₀ m cm news ⟨h, g, d₀, tk₀, os⟩) (hl : h.get? l = some (lsO vs k1)) (hb : h.get? b = some (lsO ws k2)) (hsz : vs.length + ws.length ≤ 100000)
    (q : ∀ D h', Fm w B L cl s₀ m cm ((D, lsO (vs ++ ws) 0) :: news) ⟨h', g, d, tk, os⟩ → Q (.ref D) ⟨h', g, d, tk, os⟩) : wpAny (M w) A (binaryOp .Add (.ref l) (.ref b)) Q E ⟨h, g, d, tk, os⟩ := by
  refine add_lists (s := ⟨h, g, d, tk, os⟩) (h₀ := {}) (L := L) (m := m) (news := allBut h L) (Fm.fr (F.withD (d := d) (tk := tk))) (Fm.nws (F.withD (d := d) (tk := tk))) (isL hl) (isL hb) (fun h' F' N' => ?_) (Nat.le_trans hsz (show (100000 : Nat) ≤ sizeLine by decide))
  (refine x0_5 (Fm.freshC (a := h.objs.size) F (Nat.le_refl _)) ?_; intro a1 a2 a3 a4 a5)
  exact q _ _ (Fm.addC (F.back F' N' fun p hp => .tail _ hp) (N'.get (.head _)) a1 a2 a3 a4 a5)
end
theorem strs_of : ∀ (ls : List Value) (f : Nat → PySem.Str), (∀ j v, ls[j]? = some v → ∃ t, v = Value.str (f j) t) → ∃ y : List (PySem.Str × Tok), ls = strValues y ∧ y.map (·.1) = (List.range ls.length).map f
  | [], f, _ => ⟨[], rfl, rfl⟩
  | v :: ls, f, h => by
    obtain ⟨t, rfl⟩ := h 0 v rfl
    obtain ⟨y, hy, he⟩ := strs_of ls (fun j => f (j + 1)) fun j v e => h (j + 1) v (by simpa using e)
    refine ⟨(f 0, t) :: y, by rw [hy]; rfl, ?_⟩
    rw [List.map_cons, he, List.length_cons, List.range_succ_eq_map, List.map_cons, List.map_map]
    rfl
theorem range_map_getD {α β : Type} [Inhabited α] (ys : List α) (f : α → β) : (List.range ys.length).map (fun j => f (ys.getD j default)) = ys.map f := by
  refine List.ext_getElem (by simp) fun i h1 h2 => ?_
  simp [List.getD_eq_getElem?_getD, List.getElem?_eq_getElem (show i < ys.length by simpa using h2)]
theorem sorted_eq : ∀ {a b : List Int}, a.Perm b → a.Pairwise (· ≤ ·) → b.Pairwise (· ≤ ·) → a = b
  | [], b, p, _, _ => p.nil_eq
  | x :: a, [], p, _, _ => absurd p.symm.nil_eq (by simp)
  | x :: a, y :: b, p, ha, hb => by
    have h1 : x ∈ y :: b := p.mem_iff.mp (.head _)
    have h2 : y ∈ x :: a := p.mem_iff.mpr (.head _)
    have exy : x = y := by
      rcases List.mem_cons.mp h1 with e | e
      · exact e
      · rcases List.mem_cons.mp h2 with e' | e'
        · exact e'.symm
        · have := (List.pairwise_cons.mp ha).1 _ e'
          have := (List.pairwise_cons.mp hb).1 _ e
          (first | lia | omega)
    subst exy
    rw [sorted_eq (List.Perm.cons_inv p) (List.pairwise_cons.mp ha).2 (List.pairwise_cons.mp hb).2]
/-- pairs of ints in the heap, in any order -/
noncomputable def PrsIn (ys : List (Int × Int)) (vs : List Value) (l : List (Addr × Obj)) : Prop := vs.length = ys.length ∧ ∀ (j : Nat) (y : Int × Int), ys[j]? = some y → ∃ (a : Addr) (t u : Tok), vs[j]? = some (Value.ref a) ∧ (a, tupO [.int y.1 t, .int y.2 u]) ∈ l
theorem PrsIn.snoc {ys : List (Int × Int)} {vs : List Value} {l : List (Addr × Obj)} (h : PrsIn ys vs l) {y : Int × Int} {a : Addr} {t u : Tok} : PrsIn (ys ++ [y]) (vs ++ [.ref a]) ((a, tupO [.int y.1 t, .int y.2 u]) :: l) := by
  refine ⟨by simp [h.1], fun j z e => ?_⟩
  by_cases hj : j < ys.length
  · rw [List.getElem?_append_left hj] at e
    obtain ⟨a', t', u', e1, e2⟩ := h.2 j z e
    exact ⟨a', t', u', by rw [List.getElem?_append_left (by rw [h.1]; exact hj)]; exact e1, .tail _ e2⟩
  · have hlt := (List.getElem?_eq_some_iff.mp e).1
    simp at hlt
    have hj' : j = ys.length := by (first | lia | omega)
    subst hj'
    rw [List.getElem?_append_right (Nat.le_refl _), Nat.sub_self] at e
    simp at e
    subst e
    refine ⟨a, t, u, ?_, .head _⟩
    rw [List.getElem?_append_right (by rw [h.1]; exact Nat.le_refl _), h.1, Nat.sub_self]
    rfl
noncomputable def pairD (y : Int × Int) : PyData := .tuple [.int y.1, .int y.2]
theorem reads_pairs {h : Heap} {lp : List (Addr × Obj)} (hs : ∀ p ∈ lp, h.get? p.1 = some p.2) : ∀ (ps : List (Int × Int)) (vs : List Value), PrsIn ps vs lp → ReadsAll h vs (ps.map pairD) []
  | [], vs, hp => by
    have : vs = [] := List.eq_nil_of_length_eq_zero hp.1
    subst this
    exact .nil
  | y :: ps, vs, hp => by
    obtain ⟨a, t, u, hv, ha⟩ := hp.2 0 y rfl
    cases vs with
    | nil => simp at hv
    | cons v vs =>
      simp at hv
      subst hv
      have ih := reads_pairs hs ps vs ⟨by have := hp.1; simpa using this, fun j z e => by
        obtain ⟨a', t', u', e1, e2⟩ := hp.2 (j + 1) z (by simpa using e)
        exact ⟨a', t', u', by simpa using e1, e2⟩⟩
      have h1 : ReadsAll h [.int y.1 t, .int y.2 u] [.int y.1, .int y.2] ([] ++ ([] ++ [])) := .cons (.int _ _) (.cons (.int _ _) .nil)
      have h2 : Reads h (.ref a) (pairD y) ([] ++ ([] ++ [])) := Reads.tuple (hs _ ha) rfl rfl h1
      exact ReadsAll.cons h2 ih
theorem pairs_lay : ∀ ps : List (Int × Int), PyData.canLayAll0 (ps.map pairD) = true ∧ PyData.depthAll (ps.map pairD) ≤ 2
  | [] => by simp [PyData.canLayAll0, PyData.depthAll]
  | y :: ps => by
    have ih := pairs_lay ps
    refine ⟨by simp [PyData.canLayAll0, pairD, PyData.canLay0, ih.1], ?_⟩
    simp [PyData.depthAll, pairD, PyData.depth]
    have := ih.2
    (first | lia | omega)
section
variable {w : World} {B : Heap} {C I D : Addr} {cl : List (PySem.Str × Addr)} {cm : PySem.Str → Option Value} {s₀ : Shared} {A : Around} {n : Nat} {P : Nat → Value → Prop} {Ob : Nat → Obj → Prop} {Sd : Heap → Prop}
  {elt target iter : Expr} {ifs : List Expr} {gens : List Comprehension} {scope : Scope} {pos : Pos} {acc : Value} {d : Nat} {env : Env} {Q : Shared → Prop}
theorem comp_runO (S : Steps w I n P Ob Sd) (hg : gens[d]? = some ⟨target, iter, ifs, 0⟩) (hn : gens[d + 1]? = none) (hh : A.handled = none)
    (Inv : Nat → (PySem.Str → Option Value) → (PySem.Str → Option Value) → List (Addr × Obj) → Prop)
    (hSd : ∀ i m cm news s o, Inv i m cm news → Fm w B C cl s₀ m cm ((I, o) :: news) s → Sd s.heap)
    (body : ∀ i v m cm news o s (K : Shared → Prop), i < n → P i v → Ob (i + 1) o → Inv i m cm news → Fm w B C cl s₀ m cm ((I, o) :: news) s →
      (∀ m' cm' news' s', Inv (i + 1) m' cm' news' → Fm w B C cl s₀ m' cm' ((I, o) :: news') s' → K s') →
      wpAny (M w) A (letOwnedTupleGo target (.ref I) v) (fun _ s₁' => wpAny (M w) A (assign target env v) (fun _ s₂ => wpAny (M w) A (ifsOk env ifs) (fun ok s₃ =>
          if ok = true then wpAny (M w) A (eval elt env) (fun y s₄ => wpAny (M w) A (call (.builtin "list.append") [acc, y]) (fun _ s₅ => K s₅) NoE s₄) NoE s₃
          else K s₃) NoE s₂) NoE s₁') NoE s) :
    ∀ (k i : Nat) (m cm : PySem.Str → Option Value) (news : List (Addr × Obj)) (o : Obj) (s : Shared), i + k = n → Ob i o → Inv i m cm news → Fm w B C cl s₀ m cm ((I, o) :: news) s →
      (∀ m' cm' news' s', Inv n m' cm' news' → Fm w B C cl s₀ m' cm' news' s' → Q s') → CompC w A (.ListComp elt gens scope pos) d (.ref I) acc env Q s
  | 0, i, m, cm, news, o, s, hi, ho, hv, F, hq => by
    refine comp_step hg hn ?_
    have hs := hSd _ _ _ _ _ _ hv F
    obtain ⟨h, g, dd, tk, os⟩ := s
    refine F.endI S hh (by ktn_no "om") ho hs fun h' tk' F' => ?_
    exact hq _ _ _ _ (by rw [← hi]; exact hv) F'
  | k + 1, i, m, cm, news, o, s, hi, ho, hv, F, hq => by
    refine comp_step hg hn ?_
    have hs := hSd _ _ _ _ _ _ hv F
    obtain ⟨h, g, dd, tk, os⟩ := s
    refine F.nextI S (by ktn_no "om") ho hs fun v h' tk' o' hP ho' F' => ?_
    refine body i v m cm news o' _ _ (by ktn_no "om") hP ho' hv F' fun m' cm' news' s' hv' F'' => ?_
    exact comp_runO S hg hn hh Inv hSd body k (i + 1) m' cm' news' o' s' (by ktn_no "om") ho' hv' F'' hq
theorem comp_simpleO (S : Steps w I n P Ob Sd) (self : SelfI w I Ob) (hg : gens[d]? = some ⟨target, iter, [], 0⟩) (hn : gens[d + 1]? = none) (hh : A.handled = none) (hsz : n ≤ 100000) (R : Nat → Value → Prop)
    {m cm : PySem.Str → Option Value} {rest : List (Addr × Obj)} {k₀ : Nat} {o : Obj} {s : Shared} (ho : Ob 0 o) (F : Fm w B C cl s₀ m cm ((I, o) :: (D, lsO [] k₀) :: rest) s)
    (hSd : ∀ m l k s o, Fm w B C cl s₀ m cm ((I, o) :: (D, lsO l k) :: rest) s → Sd s.heap)
    (body : ∀ i v m l k o s (K : Value → Shared → Prop), i < n → P i v → Ob (i + 1) o → Fm w B C cl s₀ m cm ((I, o) :: (D, lsO l k) :: rest) s →
      (∀ y m' s', R i y → Fm w B C cl s₀ m' cm ((I, o) :: (D, lsO l k) :: rest) s' → K y s') →
      wpAny (M w) A (letOwnedTupleGo target (.ref I) v) (fun _ s₁' => wpAny (M w) A (assign target env v) (fun _ s₂ => wpAny (M w) A (eval elt env) K NoE s₂) NoE s₁') NoE s)
    (hq : ∀ m' l k s', l.length = n → (∀ j y, l[j]? = some y → R j y) → Fm w B C cl s₀ m' cm ((D, lsO l k) :: rest) s' → Q s') : CompS w A (.ListComp elt gens scope pos) d (.ref I) (.ref D) env Q s := by
  have run := comp_runO (acc := .ref D) (scope := scope) (pos := pos) (elt := elt) (env := env) (cl := cl) (B := B) (C := C) (s₀ := s₀) (Q := Q) S hg hn hh (fun i m cm' news => cm' = cm ∧ ∃ l k, news = (D, lsO l k) :: rest ∧ l.length = i ∧ ∀ j y, l[j]? = some y → R j y) ?_ ?_ n 0 m cm ((D, lsO [] k₀) :: rest) o s (by ktn_no "om") ho ⟨rfl, [], _, rfl, rfl, fun j y e => by simp at e⟩ F ?_
  · exact comp_start hg run (self A o s _ ho (F.at 0 rfl) run)
  · rintro i m cm' news s o ⟨rfl, l, k, rfl, _⟩ F
    exact hSd _ _ _ _ _ F
  · rintro i v m cm' news o s K hi hP hO ⟨rfl, l, k, rfl, hl, hR⟩ F q
    refine wpAny_mono (body i v m l k o s _ hi hP hO F fun y m' s' hy F' => ?_) (fun _ s₁ h₁ => wpAny_mono h₁ (fun _ s₂ h₂ => wpAny_tests_nil (by rw [if_pos rfl]; exact h₂)) fun _ _ z => z) fun _ _ z => z
    obtain ⟨h, g, dd, tk, os⟩ := s'
    refine app_at 1 F' rfl (by ktn_no "om") fun h' F'' => q _ _ _ _ ⟨rfl, l ++ [y], _, rfl, by simp [hl], fun j z e => ?_⟩ F''
    by_cases hj : j < l.length
    · rw [List.getElem?_append_left hj] at e; exact hR j z e
    · rw [List.getElem?_append_right (by ktn_no "om")] at e
      have : j - l.length = 0 := by
        have := (List.getElem?_eq_some_iff.mp e).1
        simp at this; (first | lia | omega)
      rw [this] at e
      have hji : j = i := by (first | lia | omega)
      subst hji
      cases e; exact hy
  · rintro m' cm' news' s' ⟨rfl, l, k, rfl, hl, hR⟩ F'
    exact hq _ _ _ _ hl hR F'
end
section
variable {w : World} {B : Heap} {L : Addr} {m cm : PySem.Str → Option Value} {cl : List (PySem.Str × Addr)} {news rest : List (Addr × Obj)} {s₀ s : Shared} {A : Around} {n : Nat}
  {h : Heap} {g : Array GenState} {d d₀ : Drawn} {tk tk₀ : Nat} {os : OsState}
theorem chunk_le (mx : Int) (st : List PySem.Str × List (PySem.Str × PySem.Str)) (v : PySem.Str) : (chunk mx st v).1.length ≤ st.1.length + 1 ∧ (chunk mx st v).2.length ≤ st.2.length + 1 := by
  unfold chunk; split <;> simp
theorem chunk_word (mx : Int) (st : List PySem.Str × List (PySem.Str × PySem.Str)) (v : PySem.Str) {c : Nat} (h : ∀ z ∈ st.2, Word c z) (hv : Word c (e0, v)) : ∀ z ∈ (chunk mx st v).2, Word c z := by
  unfold chunk
  split
  · intro z hz; simp at hz; rw [hz]; exact hv
  · intro z hz
    rcases List.mem_append.mp hz with hz | hz
    · exact h z hz
    · simp at hz; rw [hz]; exact hv
theorem fold_facts {c : Nat} (mx : Int) : ∀ (ws : List PySem.Str) (st : List PySem.Str × List (PySem.Str × PySem.Str)), (∀ z ∈ st.2, Word c z) → (∀ y ∈ ws, Word c (e0, y)) →
    (∀ z ∈ (ws.foldl (fun st v => chunk mx st v) st).2, Word c z) ∧ (ws.foldl (fun st v => chunk mx st v) st).1.length ≤ st.1.length + ws.length ∧ (ws.foldl (fun st v => chunk mx st v) st).2.length ≤ st.2.length + ws.length ∧
      ((ws ≠ [] ∨ st.2 ≠ []) → (ws.foldl (fun st v => chunk mx st v) st).2 ≠ [])
  | [], st, h, _ => ⟨h, Nat.le_refl _, Nat.le_refl _, fun h => h.resolve_left (fun z => z rfl)⟩
  | v :: ws, st, h, hw => by
    have hc := chunk_le mx st v
    have hn : (chunk mx st v).2 ≠ [] := by unfold chunk; split <;> simp
    obtain ⟨a, b, c, d⟩ := fold_facts mx ws (chunk mx st v) (chunk_word mx st v h (hw v (.head _))) fun y hy => hw y (.tail _ hy)
    rw [List.foldl_cons, List.length_cons]
    exact ⟨a, by (first | lia | omega), by (first | lia | omega), fun _ => d (.inr hn)⟩
theorem new_list {h : Heap} {g : Array GenState} {d d₀ : Drawn} {tk tk₀ : Nat} {os : OsState} {vs : List Value} {Q : Value → Shared → Prop} {E : Value → Shared → Prop} (F : Fm w B L cl s₀ m cm news ⟨h, g, d₀, tk₀, os⟩) (hz : vs.length ≤ 1000)
    (q : ∀ D h', Fm w B L cl s₀ m cm ((D, lsO vs 0) :: news) ⟨h', g, d, tk, os⟩ → Q (.ref D) ⟨h', g, d, tk, os⟩) : wpAny (M w) A (newList vs) Q E ⟨h, g, d, tk, os⟩ :=
  st_newList hz (q _ _ (F.push1 (g := g) (d := d) (tk := tk) (lsO vs 0)))
theorem unpackItems_two {h : Heap} {g : Array GenState} {d : Drawn} {tk : Nat} {os : OsState} {t : Addr} {v1 v2 : Value} {x y : PySem.Str} {Q : List Value → Shared → Prop} {E : Value → Shared → Prop} (hh : A.handled = none) (ht : h.get? t = some (tupO [v1, v2]))
    (hQ : ∀ h', Heap.ExtBut h.objs.size h h' → Q [v1, v2] ⟨h', g, d, tk, os⟩) : wpAny (M w) A (unpackItems (.ref t) [x, y].length none) Q E ⟨h, g, d, tk, os⟩ :=
  unpackItems_tuple (items := #[v1, v2]) (s := ⟨h, g, d, tk, os⟩) hh (tupO_is ht) fun h' he => hQ h' he
theorem list_go {I x T : Addr} {i : Nat} {elts : List Expr} {k : Nat} {pos : Pos} {Q : Unit → Shared → Prop} {E : Value → Shared → Prop} (e : s.heap.get? I = some (itO x i)) (q : Q () s) :
    wpAny (M w) A (letOwnedTupleGo (.Tuple elts k pos) (.ref I) (.ref T)) Q E s := by
  unfold letOwnedTupleGo
  refine wpAny_bind (wpAny_load e ?_)
  dsimp only
  rw [if_neg (by simp)]
  exact wpAny_pure q
theorem sorted_list {h : Heap} {g : Array GenState} {d d₀ : Drawn} {tk tk₀ : Nat} {os : OsState} {l : Addr} {xs : List (Int × Tok)} {Q : Value → Shared → Prop} {E : Value → Shared → Prop} (F : Fm w B L cl s₀ m cm news ⟨h, g, d₀, tk₀, os⟩) (hl : h.IsList l (inV xs).toArray) (h64 : xs.length < 64)
    (q : ∀ D h' ys k, (ys.map (·.1)).Perm (xs.map (·.1)) → (ys.map (·.1)).Pairwise (· ≤ ·) → Fm w B L cl s₀ m cm ((D, lsO (inV ys) k) :: news) ⟨h', g, d, tk, os⟩ → Q (.ref D) ⟨h', g, d, tk, os⟩) : wpAny (M w) A (call (.builtin "sorted") [.ref l]) Q E ⟨h, g, d, tk, os⟩ := by
  refine sorted_N (s := ⟨h, g, d, tk, os⟩) (h₀ := {}) (L := L) (m := m) (news := allBut h L) (Fm.fr (F.withD (d := d) (tk := tk))) (Fm.nws (F.withD (d := d) (tk := tk))) hl (intsAre xs) (by simpa using h64) fun h' vs' ns' e F' N' hi hp hs => ?_
  obtain ⟨ys, rfl, rfl⟩ := inV_of hi
  obtain ⟨a1, a2, a3, a4, a5⟩ := Fm.freshC (a := h.objs.size + 1) F (Nat.le_succ _)
  exact q _ _ ys e hp hs (Fm.addC (F.back F' N' fun p hp => .tail _ hp) (N'.get (.head _)) a1 a2 a3 a4 a5)
theorem inV_at {xs : List (Int × Tok)} {i : Nat} (h : i < xs.length) : (inV xs)[i]? = some (.int ((xs.map (·.1)).getD i 0) (xs[i]'h).2) := by
  simp [List.getD_eq_getElem?_getD, List.getElem?_eq_getElem h]
theorem new_tuple {h : Heap} {g : Array GenState} {d d₀ : Drawn} {tk tk₀ : Nat} {os : OsState} {vs : List Value} {Q : Value → Shared → Prop} {E : Value → Shared → Prop} (F : Fm w B L cl s₀ m cm news ⟨h, g, d₀, tk₀, os⟩) (hz : vs.length ≤ 1000)
    (q : ∀ T h', Fm w B L cl s₀ m cm ((T, tupO vs) :: news) ⟨h', g, d, tk, os⟩ → Q (.ref T) ⟨h', g, d, tk, os⟩) : wpAny (M w) A (newTuple vs) Q E ⟨h, g, d, tk, os⟩ :=
  st_newTuple hz (q _ _ (F.push1 (g := g) (d := d) (tk := tk) (tupO vs)))
end
/-- names put together two by two -/
inductive Tr where
  | leaf (lab : Nat)
  | node (l r : Tr)
namespace Tr
noncomputable def size : Tr → Nat
  | leaf _ => 1
  | node l r => l.size + r.size
/-- the words' lengths, gap by gap -/
noncomputable def wl : Tr → List Nat
  | leaf _ => []
  | node l r => l.wl ++ l.size * r.size :: r.wl
/-- what stands in brackets of its own, from place o on -/
noncomputable def parts : Nat → Tr → List (Nat × Nat)
  | _, leaf _ => []
  | o, node l r => (o, o + l.size + r.size - 1) :: (parts o l ++ parts (o + l.size) r)
theorem size_pos : ∀ t : Tr, 0 < t.size
  | leaf _ => Nat.one_pos
  | node l _ => Nat.lt_of_lt_of_le l.size_pos (Nat.le_add_right _ _)
theorem wl_len : ∀ t : Tr, t.wl.length + 1 = t.size
  | leaf _ => rfl
  | node l r => by
    have a := wl_len l
    have b := wl_len r
    show (l.wl ++ l.size * r.size :: r.wl).length + 1 = l.size + r.size
    rw [List.length_append, List.length_cons]; (first | lia | omega)
theorem parts_in : ∀ (t : Tr) (o a b : Nat), (a, b) ∈ parts o t → o ≤ a ∧ a < b ∧ b + 1 ≤ o + t.size
  | leaf _, o, a, b, h => by cases h
  | node l r, o, a, b, h => by
    have pl := l.size_pos
    have pr := r.size_pos
    unfold parts at h
    show _ ∧ _ ∧ b + 1 ≤ o + (l.size + r.size)
    rcases List.mem_cons.mp h with h | h
    · have h1 := congrArg Prod.fst h
      have h2 := congrArg Prod.snd h
      dsimp only at h1 h2
      (first | lia | omega)
    · rcases List.mem_append.mp h with h | h
      · have := parts_in l _ _ _ h; (first | lia | omega)
      · have := parts_in r _ _ _ h; (first | lia | omega)
/-- the sum of the words of the gaps from a on to b -/
noncomputable def seg (t : Tr) (a b : Nat) : Nat := ((t.wl.drop a).take (b - a)).sum
theorem seg_left (l r : Tr) (a b : Nat) (h : b < l.size) : seg (node l r) a b = seg l a b := by
  have e := wl_len l
  unfold seg
  show (((l.wl ++ l.size * r.size :: r.wl).drop a).take (b - a)).sum = _
  by_cases ha : a ≤ l.wl.length
  · rw [List.drop_append_of_le_length ha, List.take_append_of_le_length (by rw [List.length_drop]; (first | lia | omega))]
  · rw [show b - a = 0 by (first | lia | omega)]; simp
theorem seg_right (l r : Tr) (a b : Nat) (h : l.size ≤ a) : seg (node l r) a b = seg r (a - l.size) (b - l.size) := by
  have e := wl_len l
  unfold seg
  show (((l.wl ++ l.size * r.size :: r.wl).drop a).take (b - a)).sum = _
  rw [List.drop_append, List.drop_eq_nil_of_le (by ktn_no "om"), List.nil_append]
  rw [show a - l.wl.length = (a - l.size) + 1 by (first | lia | omega), List.drop_succ_cons, show b - a = b - l.size - (a - l.size) by (first | lia | omega)]
theorem seg_mid (l r : Tr) (a b : Nat) (h : a < l.size) (h2 : l.size ≤ b) : seg (node l r) a b = seg l a (l.size - 1) + l.size * r.size + seg r 0 (b - l.size) := by
  have e := wl_len l
  unfold seg
  show (((l.wl ++ l.size * r.size :: r.wl).drop a).take (b - a)).sum = _
  rw [List.drop_append_of_le_length (by ktn_no "om"), List.take_append, List.sum_append, List.length_drop]
  rw [show b - a - (l.wl.length - a) = (b - l.size) + 1 by (first | lia | omega), List.take_succ_cons, List.sum_cons, Nat.add_assoc]
  rw [List.take_of_length_le (l := l.wl.drop a) (i := b - a) (by rw [List.length_drop]; (first | lia | omega)), List.take_of_length_le (l := l.wl.drop a) (i := l.size - 1 - a) (by rw [List.length_drop]; (first | lia | omega))]
  simp
theorem tri_mul {x y : Nat} : (x + 1 + y) * (x + 1 + y + 1) = x * (x + 1) + 2 * ((x + 1) * (y + 1)) + y * (y + 1) := by
  simp only [Nat.mul_add, Nat.add_mul, Nat.mul_one, Nat.one_mul]
  rw [Nat.mul_comm y x]; (first | lia | omega)
/-- m gaps hold m (m + 1) / 2 at least -/
theorem seg_ge : ∀ (t : Tr) (a b : Nat), a ≤ b → b < t.size → (b - a) * (b - a + 1) ≤ 2 * t.seg a b
  | leaf _, a, b, h, h2 => by
    have : b - a = 0 := by simp only [size] at h2; (first | lia | omega)
    rw [this]; (first | lia | omega)
  | node l r, a, b, h, h2 => by
    have h2 : b < l.size + r.size := h2
    by_cases c1 : b < l.size
    · rw [seg_left l r a b c1]; exact seg_ge l a b h c1
    · by_cases c2 : l.size ≤ a
      · rw [seg_right l r a b c2, show b - a = b - l.size - (a - l.size) by (first | lia | omega)]
        exact seg_ge r _ _ (by ktn_no "om") (by ktn_no "om")
      · rw [seg_mid l r a b (by ktn_no "om") (by ktn_no "om")]
        have i1 := seg_ge l a (l.size - 1) (by ktn_no "om") (by ktn_no "om")
        have i2 := seg_ge r 0 (b - l.size) (by ktn_no "om") (by ktn_no "om")
        obtain ⟨x, hx⟩ : ∃ x, l.size - 1 - a = x := ⟨_, rfl⟩
        obtain ⟨y, hy⟩ : ∃ y, b - l.size = y := ⟨_, rfl⟩
        rw [hx] at i1
        rw [Nat.sub_zero, hy] at i2
        rw [hy, show b - a = x + 1 + y by (first | lia | omega), tri_mul]
        have i3 : (x + 1) * (y + 1) ≤ l.size * r.size := Nat.mul_le_mul (by ktn_no "om") (by ktn_no "om")
        (first | lia | omega)
theorem seg_all : ∀ t : Tr, 2 * t.seg 0 (t.size - 1) = (t.size - 1) * (t.size - 1 + 1)
  | leaf _ => rfl
  | node l r => by
    have pl := l.size_pos
    have pr := r.size_pos
    show 2 * seg (node l r) 0 (l.size + r.size - 1) = (l.size + r.size - 1) * (l.size + r.size - 1 + 1)
    rw [seg_mid l r 0 _ pl (by ktn_no "om")]
    have i1 := seg_all l
    have i2 := seg_all r
    obtain ⟨x, hx⟩ : ∃ x, l.size = x + 1 := ⟨l.size - 1, by (first | lia | omega)⟩
    obtain ⟨y, hy⟩ : ∃ y, r.size = y + 1 := ⟨r.size - 1, by (first | lia | omega)⟩
    rw [hx, Nat.add_sub_cancel] at i1
    rw [hy, Nat.add_sub_cancel] at i2
    rw [hx, hy, Nat.add_sub_cancel, show x + 1 + (y + 1) - 1 = x + 1 + y by (first | lia | omega), show x + 1 + y - (x + 1) = y by (first | lia | omega), tri_mul]
    (first | lia | omega)
/-- those that stand in brackets of their own fill it -/
theorem seg_part : ∀ (t : Tr) (o a b : Nat), (o + a, o + b) ∈ parts o t → 2 * t.seg a b = (b - a) * (b - a + 1)
  | leaf _, o, a, b, h => by cases h
  | node l r, o, a, b, h => by
    have pl := l.size_pos
    have pr := r.size_pos
    unfold parts at h
    rcases List.mem_cons.mp h with h | h
    · have h1 := congrArg Prod.fst h
      have h2 := congrArg Prod.snd h
      dsimp only at h1 h2
      have ha : a = 0 := by (first | lia | omega)
      have hb : b = (node l r).size - 1 := by show b = l.size + r.size - 1; (first | lia | omega)
      subst ha hb
      exact seg_all _
    · rcases List.mem_append.mp h with h | h
      · have q := parts_in l _ _ _ h
        rw [seg_left l r a b (by ktn_no "om")]
        exact seg_part l o a b h
      · have q := parts_in r _ _ _ h
        rw [seg_right l r a b (by ktn_no "om"), show b - a = b - l.size - (a - l.size) by (first | lia | omega)]
        refine seg_part r (o + l.size) _ _ ?_
        rw [show o + l.size + (a - l.size) = o + a by (first | lia | omega), show o + l.size + (b - l.size) = o + b by (first | lia | omega)]
        exact h
/-- the others overflow it -/
theorem seg_other : ∀ (t : Tr) (o a b : Nat), a < b → b < t.size → (o + a, o + b) ∉ parts o t → (b - a) * (b - a + 1) < 2 * t.seg a b
  | leaf _, o, a, b, h, h2, _ => by simp only [size] at h2; (first | lia | omega)
  | node l r, o, a, b, h, h2, hn => by
    have h2 : b < l.size + r.size := h2
    unfold parts at hn
    rw [List.mem_cons, List.mem_append] at hn
    by_cases c1 : b < l.size
    · rw [seg_left l r a b c1]; exact seg_other l o a b h c1 (fun z => hn (.inr (.inl z)))
    · by_cases c2 : l.size ≤ a
      · rw [seg_right l r a b c2, show b - a = b - l.size - (a - l.size) by (first | lia | omega)]
        refine seg_other r (o + l.size) _ _ (by ktn_no "om") (by ktn_no "om") (fun z => hn (.inr (.inr ?_)))
        rw [show o + l.size + (a - l.size) = o + a by (first | lia | omega), show o + l.size + (b - l.size) = o + b by (first | lia | omega)] at z
        exact z
      · rw [seg_mid l r a b (by ktn_no "om") (by ktn_no "om")]
        have i1 := seg_ge l a (l.size - 1) (by ktn_no "om") (by ktn_no "om")
        have i2 := seg_ge r 0 (b - l.size) (by ktn_no "om") (by ktn_no "om")
        obtain ⟨x, hx⟩ : ∃ x, l.size - 1 - a = x := ⟨_, rfl⟩
        obtain ⟨y, hy⟩ : ∃ y, b - l.size = y := ⟨_, rfl⟩
        rw [hx] at i1
        rw [Nat.sub_zero, hy] at i2
        rw [hy, show b - a = x + 1 + y by (first | lia | omega), tri_mul]
        have i3 : (x + 1) * (y + 1) < l.size * r.size := by
          by_cases q1 : x + 1 = l.size
          · have q2 : y + 1 < r.size := by
              rcases Nat.lt_or_ge (y + 1) r.size with q | q
              · exact q
              · exact absurd (Or.inl (by rw [Prod.mk.injEq]; (first | lia | omega))) hn
            rw [q1]
            exact Nat.mul_lt_mul_of_pos_left q2 l.size_pos
          · exact Nat.lt_of_lt_of_le (Nat.mul_lt_mul_of_pos_right (show x + 1 < l.size by (first | lia | omega)) (Nat.succ_pos _)) (Nat.mul_le_mul_left _ (by ktn_no "om"))
        (first | lia | omega)
end Tr
/-- a name's sign, in the text and in what the strip leaves -/
noncomputable def labL : Bool → Nat → List Nat
  | _, 0 => []
  | _, 1 => [92, 41]
  | b, 2 => if b then [] else [34, 41, 40, 34]
  | _, 3 => [92, 34]
  | _, _ => [92, 40]
noncomputable def labU : Bool → Nat → Nat → List (Nat × PySem.Str)
  | _, 0, _ => []
  | _, 1, p => [(p + 1, ⟨#[92, 41]⟩)]
  | b, 2, p => if b then [] else [(p, ⟨#[34]⟩), (p + 1, ⟨#[41]⟩), (p + 2, ⟨#[40]⟩), (p + 3, ⟨#[34]⟩)]
  | _, 3, p => [(p + 1, ⟨#[92, 34]⟩)]
  | _, _, p => [(p + 1, ⟨#[92, 40]⟩)]
noncomputable def Tr.tx (b : Bool) : Tr → List Nat
  | .leaf k => 120 :: labL b k
  | .node l r => 40 :: (l.tx b ++ (r.tx b ++ [41]))
noncomputable def Tr.un (b : Bool) : Nat → Tr → List (Nat × PySem.Str)
  | p, .leaf k => (p, ⟨#[120]⟩) :: labU b k (p + 1)
  | p, .node l r => (p, ⟨#[40]⟩) :: (l.un b (p + 1) ++ (r.un b (p + 1 + (l.tx b).length) ++ [(p + 1 + (l.tx b).length + (r.tx b).length, ⟨#[41]⟩)]))
theorem esc_last (l : List Nat) (p a b : Nat) : esc l p false a = esc l p false b := by
  cases l <;> simp [esc]
theorem esc_step {c : Nat} (h : ¬ c = 92) (r : List Nat) (p a : Nat) : esc (c :: r) p false a = (p, ⟨#[c]⟩) :: esc r (p + 1) false 0 := by
  rw [esc, if_neg Bool.false_ne_true, if_neg h, esc_last r (p + 1) p 0]
theorem esc_lab (b : Bool) : ∀ (k p a : Nat) (rest : List Nat), esc (labL b k ++ rest) p false a = labU b k p ++ esc rest (p + (labL b k).length) false 0
  | 0, p, a, rest => by simp [labL, labU]; exact esc_last _ _ _ _
  | 1, p, a, rest => by simp [labL, labU, esc]; exact esc_last _ _ _ _
  | 2, p, a, rest => by cases b <;> simp [labL, labU, esc] <;> exact esc_last _ _ _ _
  | 3, p, a, rest => by simp [labL, labU, esc]; exact esc_last _ _ _ _
  | k + 4, p, a, rest => by simp [labL, labU, esc]; exact esc_last _ _ _ _
theorem esc_tr (b : Bool) : ∀ (t : Tr) (p a : Nat) (rest : List Nat), esc (t.tx b ++ rest) p false a = t.un b p ++ esc rest (p + (t.tx b).length) false 0
  | .leaf k, p, a, rest => by
    have := esc_lab b k (p + 1) 0 rest
    simp only [Tr.tx, Tr.un, List.cons_append, List.length_cons]
    rw [esc_step (by decide), this, show p + ((labL b k).length + 1) = p + 1 + (labL b k).length by (first | lia | omega)]
  | .node l r, p, a, rest => by
    have h1 := esc_tr b l (p + 1) 0 (r.tx b ++ (41 :: rest))
    have h2 := esc_tr b r (p + 1 + (l.tx b).length) 0 (41 :: rest)
    simp only [Tr.tx, Tr.un, List.cons_append, List.append_assoc, List.length_cons, List.length_append, List.length_nil, List.nil_append]
    rw [esc_step (by decide), h1, h2, esc_step (by decide), show p + ((l.tx b).length + ((r.tx b).length + (0 + 1)) + 1) = p + 1 + (l.tx b).length + (r.tx b).length + 1 by (first | lia | omega)]
theorem esc_nil (p a : Nat) : esc [] p false a = [] := by simp [esc]
theorem units_tr (b : Bool) (t : Tr) : units ⟨(t.tx b).toArray⟩ = t.un b 0 := by
  have := esc_tr b t 0 0 []
  rw [List.append_nil, esc_nil, List.append_nil] at this
  exact this
/-- a text without its last bracket -/
noncomputable def open2 (b : Bool) (l r : Tr) : List Nat := 40 :: (l.tx b ++ r.tx b)
noncomputable def unO (b : Bool) (l r : Tr) : List (Nat × PySem.Str) := (0, ⟨#[40]⟩) :: (l.un b 1 ++ r.un b (1 + (l.tx b).length))
theorem units_open (b : Bool) (l r : Tr) : units ⟨(open2 b l r).toArray⟩ = unO b l r := by
  have h1 := esc_tr b l 1 0 (r.tx b)
  have h2 := esc_tr b r (1 + (l.tx b).length) 0 []
  rw [List.append_nil, esc_nil, List.append_nil] at h2
  show esc (open2 b l r) 0 false 0 = _
  unfold open2 unO
  rw [esc_step (by decide), h1, h2]
/-! the bracket count -/
theorem check_lab : ∀ (k p : Nat) (us : List (Nat × PySem.Str)) (o : Int), checkGo (labU true k p ++ us) o = checkGo us o
  | 0, p, us, o => rfl
  | 1, p, us, o => by
    show checkGo ((p + 1, ⟨#[92, 41]⟩) :: us) o = _
    rw [checkGo]; dsimp only; rw [show ((⟨#[92, 41]⟩ : PySem.Str) == cOp) = false by decide, show ((⟨#[92, 41]⟩ : PySem.Str) == cCl) = false by decide]
    rfl
  | 2, p, us, o => rfl
  | 3, p, us, o => by
    show checkGo ((p + 1, ⟨#[92, 34]⟩) :: us) o = _
    rw [checkGo]; dsimp only; rw [show ((⟨#[92, 34]⟩ : PySem.Str) == cOp) = false by decide, show ((⟨#[92, 34]⟩ : PySem.Str) == cCl) = false by decide]
    rfl
  | k + 4, p, us, o => by
    show checkGo ((p + 1, ⟨#[92, 40]⟩) :: us) o = _
    rw [checkGo]; dsimp only; rw [show ((⟨#[92, 40]⟩ : PySem.Str) == cOp) = false by decide, show ((⟨#[92, 40]⟩ : PySem.Str) == cCl) = false by decide]
    rfl
theorem go_op (p : Nat) (us : List (Nat × PySem.Str)) (o : Int) : checkGo ((p, ⟨#[40]⟩) :: us) o = checkGo us (o + 1) := by
  rw [checkGo]; dsimp only; rw [show ((⟨#[40]⟩ : PySem.Str) == cOp) = true by decide, if_pos rfl]
theorem go_cl (p : Nat) (us : List (Nat × PySem.Str)) (o : Int) (h : 0 ≤ o) : checkGo ((p, ⟨#[41]⟩) :: us) (o + 1) = checkGo us o := by
  rw [checkGo]; dsimp only; rw [show ((⟨#[41]⟩ : PySem.Str) == cOp) = false by decide, show ((⟨#[41]⟩ : PySem.Str) == cCl) = true by decide, if_neg Bool.false_ne_true, if_pos rfl, Int.add_sub_cancel, if_neg (by ktn_no "om")]
theorem check_tr : ∀ (t : Tr) (p : Nat) (us : List (Nat × PySem.Str)) (o : Int), 0 ≤ o → checkGo (t.un true p ++ us) o = checkGo us o
  | .leaf k, p, us, o, h => by
    show checkGo ((p, ⟨#[120]⟩) :: (labU true k (p + 1) ++ us)) o = _
    rw [checkGo]; dsimp only; rw [show ((⟨#[120]⟩ : PySem.Str) == cOp) = false by decide, show ((⟨#[120]⟩ : PySem.Str) == cCl) = false by decide, if_neg Bool.false_ne_true, if_neg Bool.false_ne_true]
    exact check_lab _ _ _ _
  | .node l r, p, us, o, h => by
    simp only [Tr.un, List.cons_append, List.append_assoc, List.nil_append]
    rw [go_op, check_tr l _ _ _ (by ktn_no "om"), check_tr r _ _ _ (by ktn_no "om"), go_cl _ _ _ h]
/-! the strip -/
theorem slice_ab {x : PySem.Str} {a b : Nat} (h1 : a ≤ b) (h2 : b ≤ x.cps.toList.length) : (Txt.slice x (some (a : Nat)) (some (b : Nat))).cps.toList = (x.cps.toList.drop a).take (b - a) := by
  have := beq_iff_eq.mp (slice_closes (x := x) (i := (a : Nat)) (j := (b : Nat)) ⟨by (first | lia | omega), by (first | lia | omega), by (first | lia | omega)⟩)
  rw [this, show ((b : Int) - (a : Int)).toNat = b - a by (first | lia | omega), Int.toNat_natCast]
theorem slice_a {x : PySem.Str} {a : Nat} (h2 : a ≤ x.cps.toList.length) : (Txt.slice x (some (a : Nat)) none).cps.toList = x.cps.toList.drop a := by
  have := beq_iff_eq.mp (slice_closes_from (x := x) (i := (a : Nat)) ⟨by (first | lia | omega), by (first | lia | omega)⟩)
  rw [this, show ((x.cps.toList.length : Int) - (a : Int)).toNat = x.cps.toList.length - a by (first | lia | omega), Int.toNat_natCast]
  exact List.take_of_length_le (by rw [List.length_drop]; (first | lia | omega))
/-- what is kept so far -/
noncomputable def kept (x : List Nat) (p : Nat) (st : SSt) : List Nat := (cat st.2.2).cps.toList ++ (x.drop st.1).take (p - st.1)
theorem kept_ext {x pre tok post : List Nat} {st : SSt} (hx : x = pre ++ (tok ++ post)) (h : st.1 ≤ pre.length) : kept x (pre.length + tok.length) st = kept x pre.length st ++ tok := by
  unfold kept
  subst hx
  rw [List.append_assoc, List.drop_append_of_le_length h, List.take_append, List.take_append, List.take_append, List.length_drop]
  rw [show pre.length + tok.length - st.1 - (pre.length - st.1) = tok.length by (first | lia | omega), Nat.sub_self]
  rw [List.take_of_length_le (l := pre.drop st.1) (i := pre.length + tok.length - st.1) (by rw [List.length_drop]; (first | lia | omega)), List.take_of_length_le (l := pre.drop st.1) (i := pre.length - st.1) (by rw [List.length_drop]; (first | lia | omega))]
  simp
theorem strip_no (x : PySem.Str) (st : SSt) (p : Nat) (u : PySem.Str) (h : (u == Q1) = false) : stripStep x st (p, u) = st := by
  unfold stripStep; rw [show ((p, u).2 == Q1) = false from h]; rfl
/-- a run of units is outside of quotation marks at both ends, and leaves the text given -/
noncomputable def Lv (x : PySem.Str) (us : List (Nat × PySem.Str)) (p q : Nat) (t : List Nat) : Prop :=
  ∀ (a : Nat) (ps : List PySem.Str), a ≤ p → ∃ a' ps', us.foldl (stripStep x) (a, none, ps) = (a', none, ps') ∧ a' ≤ q ∧ kept x.cps.toList q (a', none, ps') = kept x.cps.toList p (a, none, ps) ++ t
theorem Lv.app {x : PySem.Str} {us vs : List (Nat × PySem.Str)} {p q r : Nat} {t u : List Nat} (h1 : Lv x us p q t) (h2 : Lv x vs q r u) : Lv x (us ++ vs) p r (t ++ u) := fun a ps ha => by
  obtain ⟨a', ps', e, b, c⟩ := h1 a ps ha
  obtain ⟨a'', ps'', e2, b2, c2⟩ := h2 a' ps' b
  exact ⟨a'', ps'', by rw [List.foldl_append, e, e2], b2, by rw [c2, c, List.append_assoc]⟩
theorem Lv.one {x : PySem.Str} {pre tok post : List Nat} {p k : Nat} {u : PySem.Str} (hx : x.cps.toList = pre ++ (tok ++ post)) (h : (u == Q1) = false) (e1 : p = pre.length) (e2 : k = p + tok.length) {i : Nat} : Lv x [(i, u)] p k tok := fun a ps ha => by
  subst e1 e2
  refine ⟨a, ps, ?_, by (first | lia | omega), kept_ext hx ha⟩
  rw [List.foldl_cons, List.foldl_nil, strip_no x _ i u h]
theorem Lv.leaf {x : PySem.Str} {pre post : List Nat} (k : Nat) (hx : x.cps.toList = pre ++ (120 :: labL false k ++ post)) : Lv x ((pre.length, ⟨#[120]⟩) :: labU false k (pre.length + 1)) pre.length (pre.length + (120 :: labL false k).length) (120 :: labL true k) := by
  have h0 : ∀ post', x.cps.toList = pre ++ (120 :: post') → Lv x [(pre.length, ⟨#[120]⟩)] pre.length (pre.length + 1) [120] := fun post' e => Lv.one (tok := [120]) e (by decide) rfl rfl
  match k, hx with
  | 0, hx => exact h0 _ hx
  | 1, hx => exact (h0 _ hx).app (Lv.one (pre := pre ++ [120]) (tok := [92, 41]) (by rw [hx]; simp [labL]; rfl) (by decide) (by simp) (by simp [labL]))
  | 3, hx => exact (h0 _ hx).app (Lv.one (pre := pre ++ [120]) (tok := [92, 34]) (by rw [hx]; simp [labL]; rfl) (by decide) (by simp) (by simp [labL]))
  | k + 4, hx => exact (h0 _ hx).app (Lv.one (pre := pre ++ [120]) (tok := [92, 40]) (by rw [hx]; simp [labL]; rfl) (by decide) (by simp) (by simp [labL]))
  | 2, hx =>
    intro a ps ha
    have hlen : pre.length + 5 ≤ x.cps.toList.length := by rw [hx]; simp [labL]
    refine ⟨pre.length + 5, ps ++ [Txt.slice x (some a) (some (pre.length + 1 : Nat))], ?_, by simp [labL], ?_⟩
    · show [((pre.length), (⟨#[120]⟩ : PySem.Str)), (pre.length + 1, ⟨#[34]⟩), (pre.length + 1 + 1, ⟨#[41]⟩), (pre.length + 1 + 2, ⟨#[40]⟩), (pre.length + 1 + 3, ⟨#[34]⟩)].foldl (stripStep x) (a, none, ps) = _
      simp only [List.foldl_cons, List.foldl_nil]
      rw [strip_no x _ _ ⟨#[120]⟩ (by decide)]
      have e1 : stripStep x (a, none, ps) (pre.length + 1, ⟨#[34]⟩) = (a, some (pre.length + 1), ps) := by
        unfold stripStep; dsimp only; rw [show ((⟨#[34]⟩ : PySem.Str) == Q1) = true by decide]; rfl
      rw [e1, strip_no x _ _ ⟨#[41]⟩ (by decide), strip_no x _ _ ⟨#[40]⟩ (by decide)]
      unfold stripStep; dsimp only; rw [show ((⟨#[34]⟩ : PySem.Str) == Q1) = true by decide]
      show (pre.length + 1 + 3 + 1, none, if a = pre.length + 1 then ps else ps ++ [Txt.slice x (some a) (some (pre.length + 1 : Nat))]) = _
      rw [if_neg (by ktn_no "om")]
    · have := kept_ext (x := x.cps.toList) (pre := pre) (tok := [120]) (st := (a, none, ps)) (by rw [hx]; rfl) ha
      rw [show (120 :: labL true 2 : List Nat) = [120] from rfl, ← this]
      unfold kept
      dsimp only
      rw [show pre.length + (120 :: labL false 2).length - (pre.length + 5) = 0 by simp [labL], List.take_zero, List.append_nil, cat_list, List.flatMap_append, cat_list]
      simp only [List.flatMap_cons, List.flatMap_nil, List.append_nil]
      rw [slice_ab (by ktn_no "om") (by ktn_no "om")]
      rfl
theorem Lv.tr {x : PySem.Str} : ∀ (t : Tr) (pre post : List Nat), x.cps.toList = pre ++ (t.tx false ++ post) → Lv x (t.un false pre.length) pre.length (pre.length + (t.tx false).length) (t.tx true)
  | .leaf k, pre, post, hx => Lv.leaf k hx
  | .node l r, pre, post, hx => by
    have e0 : x.cps.toList = pre ++ ([40] ++ (l.tx false ++ (r.tx false ++ ([41] ++ post)))) := by rw [hx]; simp [Tr.tx]
    have a := Lv.one (x := x) (pre := pre) (tok := [40]) (u := ⟨#[40]⟩) (p := pre.length) (k := pre.length + 1) (i := pre.length) e0 (by decide) rfl rfl
    have b := Lv.tr l (pre ++ [40]) (r.tx false ++ ([41] ++ post)) (by rw [e0]; simp)
    have c := Lv.tr r (pre ++ [40] ++ l.tx false) ([41] ++ post) (by rw [e0]; simp)
    have d := Lv.one (x := x) (pre := pre ++ [40] ++ l.tx false ++ r.tx false) (tok := [41]) (post := post) (u := ⟨#[41]⟩) (p := pre.length + 1 + (l.tx false).length + (r.tx false).length) (k := pre.length + 1 + (l.tx false).length + (r.tx false).length + 1) (i := pre.length + 1 + (l.tx false).length + (r.tx false).length) (by rw [e0]; simp) (by decide) (by simp; (first | lia | omega)) rfl
    simp only [List.length_append, List.length_cons, List.length_nil, Nat.zero_add] at b c
    have := a.app (b.app (c.app d))
    have e : pre.length + (Tr.tx false (.node l r)).length = pre.length + 1 + (l.tx false).length + (r.tx false).length + 1 := by simp [Tr.tx]; (first | lia | omega)
    rw [e]
    exact this
theorem cat_end (x : PySem.Str) (a : Nat) (ps : List PySem.Str) (h : a ≤ x.cps.toList.length) : (cat (stripEnd x (a, none, ps))).cps.toList = kept x.cps.toList x.cps.toList.length (a, none, ps) := by
  have hl : x.length = x.cps.toList.length := rfl
  unfold stripEnd kept
  dsimp only
  by_cases q : a < x.length
  · rw [if_pos q, cat_list, List.flatMap_append, cat_list]
    simp only [List.flatMap_cons, List.flatMap_nil, List.append_nil]
    rw [slice_a h, List.take_of_length_le (by rw [List.length_drop]; (first | lia | omega))]
  · rw [if_neg q, List.drop_eq_nil_of_le (by ktn_no "om"), List.take_nil, List.append_nil]
theorem strip_lv {x : PySem.Str} {t : List Nat} (h : Lv x (units x) 0 x.cps.toList.length t) (hq : 34 ∉ x.cps.toList → x.cps.toList = t) : stripF x = ⟨t.toArray⟩ := by
  unfold stripF
  rw [show Q1 = ⟨#[34]⟩ by decide, empty_one]
  by_cases q : 34 ∈ x.cps.toList
  · rw [decide_eq_true q, if_neg (by decide)]
    obtain ⟨a, ps, e, ha, hk⟩ := h 0 [] (Nat.le_refl _)
    rw [e, show Txt.join ⟨#[]⟩ (stripEnd x (a, none, ps)) = Str.join ⟨#[]⟩ (stripEnd x (a, none, ps)) from StrLaws.glued_eq_join _ _, join_nil_cat]
    refine str_ext ?_
    rw [cat_end x a ps ha, hk]
    simp [kept, cat_nil]
  · rw [decide_eq_false q, if_pos (by decide)]
    refine str_ext ?_
    rw [hq q]
theorem lab_live (k : Nat) (h : 34 ∉ labL false k) : labL false k = labL true k := by
  match k with
  | 0 | 1 | 3 | k + 4 => rfl
  | 2 => exact absurd (.head _) h
theorem tx_live : ∀ t : Tr, 34 ∉ t.tx false → t.tx false = t.tx true
  | .leaf k, h => by unfold Tr.tx at h ⊢; rw [lab_live k fun q => h (.tail _ q)]
  | .node l r, h => by
    unfold Tr.tx at h ⊢
    rw [tx_live l fun q => h (.tail _ (List.mem_append_left _ q)), tx_live r fun q => h (.tail _ (List.mem_append_right _ (List.mem_append_left _ q)))]
theorem strip_tr (t : Tr) : stripF ⟨(t.tx false).toArray⟩ = ⟨(t.tx true).toArray⟩ := by
  refine strip_lv ?_ fun h => tx_live t h
  rw [units_tr]
  have := Lv.tr (x := ⟨(t.tx false).toArray⟩) t [] [] (by simp)
  simpa using this
theorem strip_open (l r : Tr) : stripF ⟨(open2 false l r).toArray⟩ = ⟨(open2 true l r).toArray⟩ := by
  refine strip_lv ?_ fun h => ?_
  · rw [units_open]
    have a := Lv.one (x := ⟨(open2 false l r).toArray⟩) (pre := []) (tok := [40]) (post := l.tx false ++ r.tx false) (u := ⟨#[40]⟩) (p := 0) (k := 1) (i := 0) rfl (by decide) rfl rfl
    have b := Lv.tr (x := ⟨(open2 false l r).toArray⟩) l [40] (r.tx false) rfl
    have c := Lv.tr (x := ⟨(open2 false l r).toArray⟩) r (40 :: l.tx false) [] (by simp [open2])
    simp only [List.length_cons, List.length_nil, Nat.zero_add] at b c
    rw [Nat.add_comm (l.tx false).length 1] at c
    have := a.app (b.app c)
    have e : ((⟨(open2 false l r).toArray⟩ : PySem.Str).cps.toList.length) = 1 + (l.tx false).length + (r.tx false).length := by
      show (open2 false l r).length = _
      simp [open2]; (first | lia | omega)
    rw [e]
    exact this
  · show open2 false l r = open2 true l r
    have h : 34 ∉ open2 false l r := h
    unfold open2 at h ⊢
    rw [tx_live l fun q => h (.tail _ (List.mem_append_left _ q)), tx_live r fun q => h (.tail _ (List.mem_append_right _ q))]
theorem checkF_tr (t : Tr) : checkF ⟨(t.tx false).toArray⟩ = true := by
  unfold checkF
  rw [strip_tr, units_tr]
  have := check_tr t 0 [] 0 (Int.le_refl _)
  rw [List.append_nil] at this
  rw [this]; rfl
theorem checkF_open (l r : Tr) : checkF ⟨(open2 false l r).toArray⟩ = false := by
  unfold checkF
  rw [strip_open, units_open]
  unfold unO
  rw [go_op, check_tr l _ _ _ (by decide)]
  have := check_tr r (1 + (l.tx true).length) [] (0 + 1) (by decide)
  rw [List.append_nil] at this
  rw [this]; rfl
/-! lengths and signs -/
theorem lab_len (b : Bool) (k : Nat) : (labL b k).length ≤ 4 := by
  match k with
  | 0 | 1 | 3 | k + 4 => simp [labL]
  | 2 => cases b <;> simp [labL]
theorem tx_len (b : Bool) : ∀ t : Tr, (t.tx b).length + 2 ≤ 7 * t.size
  | .leaf k => by have := lab_len b k; simp [Tr.tx, Tr.size]; (first | lia | omega)
  | .node l r => by
    have h1 := tx_len b l
    have h2 := tx_len b r
    simp [Tr.tx, Tr.size]; (first | lia | omega)
theorem lab_asc (b : Bool) (k : Nat) : ∀ c ∈ labL b k, c < 128 := by
  match k with
  | 0 | 1 | 3 | k + 4 => simp [labL]
  | 2 => cases b <;> simp [labL]
theorem tx_asc (b : Bool) : ∀ (t : Tr), ∀ c ∈ t.tx b, c < 128
  | .leaf k, c, h => by
    rcases List.mem_cons.mp h with rfl | h
    · decide
    · exact lab_asc b k c h
  | .node l r, c, h => by
    rcases List.mem_cons.mp h with rfl | h
    · decide
    · rcases List.mem_append.mp h with h | h
      · exact tx_asc b l c h
      · rcases List.mem_append.mp h with h | h
        · exact tx_asc b r c h
        · simp at h; (first | lia | omega)
theorem all_asc {l : List Nat} (h : ∀ c ∈ l, c < 128) : (⟨l.toArray⟩ : PySem.Str).cps.all (· < 128) = true := by
  rw [Array.all_eq_true']
  intro c hc
  exact decide_eq_true (h c (by simpa using hc))
theorem step_pieces {x : PySem.Str} : ∀ (us : List (Nat × PySem.Str)) (st : SSt), (∀ y ∈ st.2.2, y.length ≤ x.length) → ∀ y ∈ (us.foldl (stripStep x) st).2.2, y.length ≤ x.length
  | [], st, h => h
  | u :: us, st, h => by
    rw [List.foldl_cons]
    refine step_pieces us _ fun y hy => ?_
    unfold stripStep at hy
    split at hy
    · split at hy
      · exact h y hy
      · dsimp only at hy
        split at hy
        · exact h y hy
        · rcases List.mem_append.mp hy with hy | hy
          · exact h y hy
          · simp at hy; rw [hy]; exact Txt.slice_le _ _ _
    · exact h y hy
theorem stripOk_len {x : PySem.Str} (h1 : x.cps.all (· < 128) = true) (h2 : x.length ≤ 500) : StripOk x := by
  refine ⟨h1, by (first | lia | omega), joinOk_of (N := 900) ?_ (fun y hy => ?_) (by decide)⟩
  · have a := strip_len x (units x) (0, none, [])
    have b := esc_len x.cps.toList 0 false 0
    have c : x.cps.toList.length = x.length := rfl
    simp only [List.length_nil] at a
    have d : (units x).length ≤ x.cps.toList.length + 1 := b
    unfold stripEnd
    split
    · rw [List.length_append, List.length_singleton]; (first | lia | omega)
    · (first | lia | omega)
  · have a := step_pieces (x := x) (units x) (0, none, []) (fun y hy => by cases hy)
    unfold stripEnd at hy
    split at hy
    · rcases List.mem_append.mp hy with hy | hy
      · exact Nat.le_trans (a y hy) (by ktn_no "om")
      · simp at hy; rw [hy]; exact Nat.le_trans (Txt.slice_le _ _ _) (by ktn_no "om")
    · exact Nat.le_trans (a y hy) (by ktn_no "om")
open PySem PySem.Calls PyProof.Rows
/-- numbers given to new values only grow -/
theorem runs_toks {M : Model} {Γ : Ctx} {p : Pos} {t : Sem PySem.Fin} {fs : List PySem.Frame} {s : Shared} {e : PySem.End} {s' : Shared} (h : Runs M Γ p t fs s e s') : s.toks ≤ s'.toks := by
  induction h with
  | done | raise | yield => exact Nat.le_refl _
  | fresh _ ih => exact Nat.le_trans (Nat.le_succ _) ih
  | again _ _ ih | rule _ ih | «at» _ ih | load _ _ ih | update _ _ ih | loadIfAlive _ ih | point _ ih | alloc _ ih | ask _ ih | choose _ _ ih | os _ ih | handled _ ih | genState _ _ ih | stack _ ih | thread _ ih | newGen _ ih | callSusp _ ih
    | resumeJustStarted _ _ _ ih | resumeThrowFresh _ _ ih | resumeRunning _ _ ih | resumeFinished _ _ ih | segSuspOut _ _ ih => exact ih
  | call _ _ i1 i2 | resumeFresh _ _ _ _ i1 i2 | resumeSuspended _ _ _ _ i1 i2 | segRet _ _ i1 i2 | segGen _ _ i1 i2 | segSuspGen _ _ _ _ i1 i2 => exact Nat.le_trans i1 i2
theorem wakes_toks {M : Model} {Γ : Ctx} {p : Pos} {g : Nat} {r : Resume} {s : Shared} {res : GenResult} {s' : Shared} (h : Wakes M Γ p g r s res s') : s.toks ≤ s'.toks := by
  unfold Wakes at h
  split at h
  · cases h
  · split at h
    · obtain ⟨e, s₁, hr, _, _, rfl⟩ := h; exact show s.toks ≤ s₁.toks from runs_toks (s := s.setGen g .running) hr
    · rw [h.2]; exact Nat.le_refl _
    · rw [h.2]; exact Nat.le_refl _
  · obtain ⟨e, s₁, hr, _, _, rfl⟩ := h; exact show s.toks ≤ s₁.toks from runs_toks (s := s.setGen g .running) hr
  · rw [h.2]; exact Nat.le_refl _
  · rw [h.2]; exact Nat.le_refl _
theorem wp_toks {α : Type} {M : Model} {Γ : Ctx} (t : Sem α) : ∀ {Q : α → Pos → Shared → Prop} {E : Value → Pos → Shared → Prop} {p : Pos} {s : Shared} (n : Nat), n ≤ s.toks → Sem.wp M Γ t Q E p s → Sem.wp M Γ t (fun a p' s' => Q a p' s' ∧ n ≤ s'.toks) E p s := by
  induction t with
  | pure a => intro Q E p s n hn h; rw [Sem.wp] at h ⊢; exact ⟨h, hn⟩
  | load a part k ih => intro Q E p s n hn h; rw [Sem.wp] at h ⊢; obtain ⟨o, e, h⟩ := h; exact ⟨o, e, ih _ n hn h⟩
  | update a part f k ih => intro Q E p s n hn h; rw [Sem.wp] at h ⊢; exact ⟨h.1, ih _ n hn h.2⟩
  | choose src m k ih => intro Q E p s n hn h; rw [Sem.wp] at h ⊢; exact ⟨h.1, ih _ n hn h.2⟩
  | call c hd g l k ih => intro Q E p s n hn h; rw [Sem.wp] at h ⊢; obtain ⟨r, s', hr, h⟩ := h; exact ⟨r, s', hr, ih _ n (Nat.le_trans hn (runs_toks hr)) h⟩
  | genState g k ih => intro Q E p s n hn h; rw [Sem.wp] at h ⊢; obtain ⟨o, e, h⟩ := h; exact ⟨o, e, ih _ n hn h⟩
  | resume g r l k ih => intro Q E p s n hn h; rw [Sem.wp] at h ⊢; obtain ⟨res, s', hr, h⟩ := h; exact ⟨res, s', hr, ih _ n (Nat.le_trans hn (wakes_toks hr)) h⟩
  | fresh k ih => intro Q E p s n hn h; rw [Sem.wp] at h ⊢; exact ih _ n (Nat.le_succ_of_le hn) h
  | _ =>
    intro Q E p s n hn h
    rw [Sem.wp] at h ⊢
    first
    | exact h
    | (rename_i ih; exact ih _ n hn h)
/-- what comes out has no smaller number ahead of it -/
theorem wpAny_toks {α : Type} {M : Model} {A : Around} {t : Sem α} {Q : α → Shared → Prop} {E : Value → Shared → Prop} {s : Shared} (h : wpAny M A t (fun a s' => s.toks ≤ s'.toks → Q a s') E s) : wpAny M A t Q E s := fun Γ p hΓ =>
  Sem.wp_mono M Γ t (fun _ _ _ x => x.1 x.2) (fun _ _ _ x => x) p s (wp_toks t s.toks (Nat.le_refl _) (h Γ p hΓ))
/-- the names from place lo to place hi put together -/
noncomputable def drawT (ns : List Nat) : Nat → Nat → Nat → Tr
  | 0, lo, _ => .leaf (ns.getD lo 0 / 7 % 5)
  | f + 1, lo, hi => if lo = hi then .leaf (ns.getD lo 0 / 7 % 5) else .node (drawT ns f lo (lo + ns.getD hi 0 / (lo + 1) % (hi - lo))) (drawT ns f (lo + ns.getD hi 0 / (lo + 1) % (hi - lo) + 1) hi)
theorem draw_size (ns : List Nat) : ∀ (f lo hi : Nat), lo ≤ hi → hi - lo < f → (drawT ns f lo hi).size = hi - lo + 1
  | 0, lo, hi, h, hf => by (first | lia | omega)
  | f + 1, lo, hi, h, hf => by
    unfold drawT
    by_cases q : lo = hi
    · rw [if_pos q]; show 1 = _; (first | lia | omega)
    · rw [if_neg q]
      have hm := Nat.mod_lt (ns.getD hi 0 / (lo + 1)) (show 0 < hi - lo by (first | lia | omega))
      show (drawT ns f _ _).size + (drawT ns f _ _).size = _
      rw [draw_size ns f _ _ (by ktn_no "om") (by ktn_no "om"), draw_size ns f _ _ (by ktn_no "om") (by ktn_no "om")]
      (first | lia | omega)
noncomputable def prI (l : List (Nat × Nat)) : List (Int × Int) := l.map fun p => ((p.1 : Int), (p.2 : Int))
noncomputable def txS (t : Tr) : PySem.Str := ⟨(t.tx false).toArray⟩
theorem txS_len (t : Tr) : (txS t).length ≤ 7 * t.size := by
  have := tx_len false t
  show (t.tx false).toArray.size ≤ _
  simp; (first | lia | omega)
theorem txS_node (l r : Tr) : Str.ofString "(" ++ txS l ++ txS r ++ Str.ofString ")" = txS (.node l r) := by
  refine str_ext ?_
  simp only [Str.cps_append, Array.toList_append, txS, Tr.tx]
  rw [show (Str.ofString "(").cps.toList = [40] by decide, show (Str.ofString ")").cps.toList = [41] by decide]
  simp
theorem txS_leaf (k : Nat) : Str.ofString "x" ++ (⟨(labL false k).toArray⟩ : PySem.Str) = txS (.leaf k) := by
  refine str_ext ?_
  simp only [Str.cps_append, Array.toList_append, txS, Tr.tx]
  rw [show (Str.ofString "x").cps.toList = [120] by decide]
  simp
theorem PrsIn.app {ys zs : List (Int × Int)} {vs us : List Value} {l l' : List (Addr × Obj)} (h : PrsIn ys vs l) (h' : PrsIn zs us l') : PrsIn (ys ++ zs) (vs ++ us) (l ++ l') := by
  refine ⟨by simp [h.1, h'.1], fun j z e => ?_⟩
  by_cases hj : j < ys.length
  · rw [List.getElem?_append_left hj] at e
    obtain ⟨a, t, u, e1, e2⟩ := h.2 j z e
    exact ⟨a, t, u, by rw [List.getElem?_append_left (by rw [h.1]; exact hj)]; exact e1, List.mem_append_left _ e2⟩
  · rw [List.getElem?_append_right (by ktn_no "om")] at e
    obtain ⟨a, t, u, e1, e2⟩ := h'.2 _ z e
    exact ⟨a, t, u, by rw [List.getElem?_append_right (by rw [h.1]; (first | lia | omega)), h.1]; exact e1, List.mem_append_right _ e2⟩
theorem PrsIn.one {y : Int × Int} {a : Addr} {t u : Tok} : PrsIn [y] [.ref a] [(a, tupO [.int y.1 t, .int y.2 u])] := by
  refine ⟨rfl, fun j z e => ?_⟩
  cases j with
  | zero => simp at e; subst e; exact ⟨a, t, u, rfl, .head _⟩
  | succ j => simp at e
theorem parts_len (t : Tr) : ∀ o, (t.parts o).length + 1 = t.size := by
  induction t with
  | leaf k => intro o; rfl
  | node l r hl hr =>
    intro o
    have a := hl o
    have b := hr (o + l.size)
    show (_ :: (Tr.parts o l ++ Tr.parts (o + l.size) r)).length + 1 = l.size + r.size
    simp; (first | lia | omega)
section
variable {w : World} {A : Around} {E : Value → Shared → Prop} {s : Shared}
theorem fdiv_int {a b : Int} {t u : Tok} {Q : Value → Shared → Prop} (hb : b ≠ 0) (hc : Builtin.divisionGoesByPylong a b = false) (h : Q (.int (a.fdiv b) s.toks) { s with toks := s.toks + 1 }) :
    wpAny (M w) A (binaryOp .FloorDiv (.int a t) (.int b u)) Q E s :=
  AutoIntOps.floordiv_1 (by simpa using hb) (by rw [hc]; exact Bool.false_ne_true) h
end
theorem no_pylong {a : Int} {b : Nat} (hb : b ≤ 100) : Builtin.divisionGoesByPylong a (b : Nat) = false := by
  unfold Builtin.divisionGoesByPylong
  have : b.log2 ≤ 100 := Nat.le_trans (Nat.log2_le_self b) hb
  rw [Bool.and_eq_false_iff]
  refine .inl (decide_eq_false ?_)
  dsimp only
  split
  · (first | lia | omega)
  · rw [Int.natAbs_natCast]; (first | lia | omega)
theorem labs_at (ls : List Value) (t0 t1 t2 t3 t4 : Tok) (h : ls = [.str (Str.ofString "") t0, .str ((⟨#[92]⟩ : PySem.Str) ++ Str.ofString ")") t1, .str (Str.ofString "\")(\"") t2, .str ((⟨#[92]⟩ : PySem.Str) ++ Str.ofString "\"") t3, .str ((⟨#[92]⟩ : PySem.Str) ++ Str.ofString "(") t4]) (k : Nat) (hk : k < 5) : ∃ t, ls[k]? = some (.str ⟨(labL false k).toArray⟩ t) := by
  subst h
  match k, hk with
  | 0, _ => exact ⟨t0, rfl⟩
  | 1, _ => exact ⟨t1, rfl⟩
  | 2, _ => exact ⟨t2, rfl⟩
  | 3, _ => exact ⟨t3, rfl⟩
  | 4, _ => exact ⟨t4, rfl⟩
section
variable {w : World} {n : Nat} {na : Addr} {ns : List (Int × Tok)} {k1 : Nat}
theorem drawn_spec : ∀ (f : Nat) {A : Around} {B : Heap} {L : Addr} {m : PySem.Str → Option Value} {cl : List (PySem.Str × Addr)} {cm : PySem.Str → Option Value} {rest : List (Addr × Obj)} {s₀ s : Shared} {E : Value → Shared → Prop} {Q : Value → Shared → Prop} {lo hi : Nat} {t1 t2 : Tok},
    Room (n + f) A → Fm w B L cl s₀ m cm rest s → hi - lo < f → lo ≤ hi → hi ≤ 6 → (na, lsO (inV ns) k1) ∈ rest → ns.length = 7 → (∀ c ∈ ns, 0 ≤ c.1) →
    (∀ T la vs l k t s', PrsIn (prI ((drawT (ns.map (·.1.toNat)) f lo hi).parts lo)) vs l → Fm w B L cl s₀ m cm ((T, tupO [.str (txS (drawT (ns.map (·.1.toNat)) f lo hi)) t, .ref la]) :: (la, lsO vs k) :: (l ++ rest)) s' → Q (.ref T) s') →
    wpAny (M w) A (call (.ref a_law_drawn) [.ref na, .int (lo : Nat) t1, .int (hi : Nat) t2] []) Q E s
  | 0, A, B, L, m, cl, cm, rest, s₀, s, E, Q, lo, hi, t1, t2, R, F, hf, h1, h2, hr, l1, l2, h => by (first | lia | omega)
  | f + 1, A, B, L, m, cl, cm, rest, s₀, s, E, Q, lo, hi, t1, t2, R, F, hf, h1, h2, hr, l1, l2, h => by
    refine call_fn (n := n + f) (binds := [("numbers", .ref na), ("low", .int (lo : Nat) t1), ("high", .int (hi : Nat) t2)]) (fd := fd_law_drawn) (cmF := fun _ => none) R F (lk_law_drawn _) (cd_law_drawn _) rfl (BindsTo.of_eq rfl) (by decide) (by kernel_rfl) (fun _ _ e => (by cases e)) (fun _ _ _ e => (by cases e)) ?_ rfl rfl rfl
    intro Qo hQo L' s₁ hL F₁ R₁
    obtain ⟨h₁, g₁, d₁, k₁, o₁⟩ := s₁
    have hg : ∀ i, i < 7 → ∃ (c : Nat) (t : Tok), (inV ns)[i]? = some (.int (c : Nat) t) ∧ (ns.map (·.1.toNat)).getD i 0 = c := fun i hi => by
      have hp := l2 _ (List.getElem_mem (show i < ns.length by (first | lia | omega)))
      refine ⟨(ns[i]'(by ktn_no "om")).1.toNat, (ns[i]'(by ktn_no "om")).2, ?_, ?_⟩
      · simp only [List.getElem?_map, List.getElem?_eq_getElem (show i < ns.length by (first | lia | omega)), Option.map_some]
        rw [show (((ns[i]'(by ktn_no "om")).1.toNat : Nat) : Int) = (ns[i]'(by ktn_no "om")).1 by (first | lia | omega)]
      · rw [List.getD_eq_getElem?_getD, List.getElem?_map, List.getElem?_eq_getElem (show i < ns.length by (first | lia | omega))]; rfl
    ktn_no "ast"
    ktn_no "y"
    by_cases q : lo = hi
    · subst q
      rw [if_pos (by simp)]
      ktn_no "y"
      refine P.chr_of_int (by decide) ?_
      ktn_no "y"
      refine SB.add (fun t₁ k₂ => ?_) (show (1 : Nat) + 1 ≤ sizeLine by decide)
      ktn_no "y"
      refine P.chr_of_int (by decide) ?_
      ktn_no "y"
      refine SB.add (fun t₂ k₃ => ?_) (show (1 : Nat) + 1 ≤ sizeLine by decide)
      ktn_no "y"
      refine P.chr_of_int (by decide) ?_
      ktn_no "y"
      refine SB.add (fun t₃ k₄ => ?_) (show (1 : Nat) + 1 ≤ sizeLine by decide)
      ktn_no "y"
      refine new_list F₁ (by simp) fun D h₂ F₂ => ?_
      clear F₁
      obtain ⟨c, tc, e1, e2⟩ := hg lo (by ktn_no "om")
      ktn_no "y"
      refine list_item (F₂.nw _ (.tail _ hr)).1 (by ktn_no "om") e1 ?_
      ktn_no "y"
      refine fdiv_int (by decide) (no_pylong (b := 7) (by decide)) ?_
      ktn_no "y"
      refine mod_int (by decide) ?_
      have e3 : ((c : Int).fdiv 7).fmod 5 = ((c / 7 % 5 : Nat) : Int) := by
        rw [Int.fdiv_eq_ediv_of_nonneg _ (by decide), Int.fmod_eq_emod_of_nonneg _ (by decide)]
        (first | lia | omega)
      rw [e3]
      obtain ⟨t₄, e4⟩ := labs_at _ _ _ _ _ _ rfl (c / 7 % 5) (by ktn_no "om")
      refine list_item (F₂.at 0 rfl) (by ktn_no "om") e4 ?_
      have hll := lab_len false (c / 7 % 5)
      refine SB.add (fun t₅ k₅ => ?_) (by
        have : (⟨(labL false (c / 7 % 5)).toArray⟩ : PySem.Str).length = (labL false (c / 7 % 5)).length := by show Array.size _ = _; simp
        rw [this, show (Str.ofString "x").length = 1 by decide]
        exact Nat.le_trans (show _ ≤ 5 by (first | lia | omega)) (by decide))
      rw [txS_leaf]
      ktn_no "y"
      refine new_list F₂ (by simp) fun D₂ h₃ F₃ => ?_
      ktn_no "y"
      refine new_tuple F₃ (by simp) fun T h₄ F₄ => ?_
      clear F₂ F₃
      have F₅ := (F₄.erase 2)
      simp only [List.eraseIdx] at F₅
      refine hQo _ _ <| Back.of F₅ fun G => ?_
      have hd : drawT (ns.map (·.1.toNat)) (f + 1) lo lo = .leaf (c / 7 % 5) := by unfold drawT; rw [if_pos rfl, e2]
      rw [hd] at h
      exact h T D₂ [] [] 0 t₅ _ ⟨rfl, fun j y e => by cases e⟩ G
    · rw [if_neg (by simpa using fun e => q (by ktn_no "om"))]
      ktn_no "y"
      obtain ⟨c, tc, e1, e2⟩ := hg hi (by ktn_no "om")
      refine list_item (F₁.nw _ hr).1 (by ktn_no "om") e1 ?_
      ktn_no "y"
      refine fdiv_int (by ktn_no "om") (no_pylong (b := lo + 1) (by ktn_no "om")) ?_
      ktn_no "y"
      refine mod_int (by ktn_no "om") ?_
      have hm := Nat.mod_lt (c / (lo + 1)) (show 0 < hi - lo by (first | lia | omega))
      have e3 : ((c : Int).fdiv ((lo : Int) + 1)).fmod ((hi : Int) - (lo : Int)) = ((c / (lo + 1) % (hi - lo) : Nat) : Int) := by
        rw [Int.fdiv_eq_ediv_of_nonneg _ (by ktn_no "om"), Int.fmod_eq_emod_of_nonneg _ (by ktn_no "om"), show (hi : Int) - (lo : Int) = ((hi - lo : Nat) : Int) by (first | lia | omega), show (lo : Int) + 1 = ((lo + 1 : Nat) : Int) by (first | lia | omega)]
        rfl
      rw [e3]
      generalize hmid : c / (lo + 1) % (hi - lo) = q₀ at *
      ktn_no "y"
      rename_i h₂ F₂
      rw [show (lo : Int) + (q₀ : Int) = ((lo + q₀ : Nat) : Int) by (first | lia | omega)] at F₂
      clear F₁
      refine Assign_Tuple ?_ (by kernel_rfl) (by kernel_rfl)
      ktn_no "y"
      refine drawn_spec f R₁ (F₂.toks _) (by ktn_no "om") (by ktn_no "om") (by ktn_no "om") hr l1 l2 fun T la vs l k t s' hP F₃ => ?_
      obtain ⟨h₃, g₃, d₃, k₃, o₃⟩ := s'
      clear F₂
      refine assign_pair F₃ R₁.handled (F₃.at 0 rfl) (by kernel_rfl) (by kernel_rfl) (by kernel_rfl) (by kernel_rfl) fun h₄ k₄ F₄ => ?_
      clear F₃
      replace F₄ := F₄.drop 1
      dsimp only [List.drop] at F₄
      refine wpAny_execs_cons (Assign_Tuple ?_ (by kernel_rfl) (by kernel_rfl))
      ktn_no "y"
      rw [show (((lo + q₀ : Nat) : Int) + 1) = ((lo + q₀ + 1 : Nat) : Int) from rfl]
      refine drawn_spec f (rest := (la, lsO vs k) :: (l ++ rest)) R₁ (F₄.toks _) (by ktn_no "om") (by ktn_no "om") (by ktn_no "om") (.tail _ (List.mem_append_right _ hr)) l1 l2 fun T₂ lb us l' k' t' s' hP' F₅ => ?_
      obtain ⟨h₅, g₅, d₅, k₅, o₅⟩ := s'
      clear F₄
      refine assign_pair F₅ R₁.handled (F₅.at 0 rfl) (by kernel_rfl) (by kernel_rfl) (by kernel_rfl) (by kernel_rfl) fun h₆ k₆ F₆ => ?_
      clear F₅
      replace F₆ := F₆.drop 1
      dsimp only [List.drop] at F₆
      have hsl := draw_size (ns.map (·.1.toNat)) f lo (lo + q₀) (by ktn_no "om") (by ktn_no "om")
      have hsr := draw_size (ns.map (·.1.toNat)) f (lo + q₀ + 1) hi (by ktn_no "om") (by ktn_no "om")
      have hd : drawT (ns.map (·.1.toNat)) (f + 1) lo hi = .node (drawT (ns.map (·.1.toNat)) f lo (lo + q₀)) (drawT (ns.map (·.1.toNat)) f (lo + q₀ + 1) hi) := by
        conv => lhs; unfold drawT
        rw [if_neg q, e2, hmid]
      rw [hd] at h
      generalize drawT (ns.map (·.1.toNat)) f lo (lo + q₀) = tl at *
      generalize drawT (ns.map (·.1.toNat)) f (lo + q₀ + 1) hi = tr at *
      have hz : (1000 : Nat) ≤ sizeLine := by decide
      have z1 := txS_len tl
      have z2 := txS_len tr
      have z3 : (Str.ofString "(").length = 1 := by decide
      have z4 : (Str.ofString ")").length = 1 := by decide
      ktn_no "y"
      refine SB.add (fun t₁ k₁ => ?_) (by ktn_no "om")
      ktn_no "y"
      refine SB.add (fun t₂ k₂ => ?_) (by rw [Str.length_append]; (first | lia | omega))
      ktn_no "y"
      refine SB.add (fun t₃ k₃ => ?_) (by rw [Str.length_append, Str.length_append]; (first | lia | omega))
      rw [txS_node]
      ktn_no "y"
      refine new_tuple F₆ (by simp) fun P h₇ F₇ => ?_
      clear F₆
      ktn_no "y"
      refine new_list F₇ (by simp) fun V h₈ F₈ => ?_
      clear F₇
      ktn_no "y"
      have pl := parts_len tl lo
      have pr := parts_len tr (lo + tl.size)
      have v1 : vs.length ≤ 100 := by rw [hP.1]; simp [prI]; (first | lia | omega)
      have v2 : us.length ≤ 100 := by
        have := parts_len tr (lo + q₀ + 1)
        rw [hP'.1]; simp [prI]; (first | lia | omega)
      refine add_list F₈ (F₈.at 0 rfl) (F₈.nw (la, lsO vs k) (by simp)).1 (by simp; (first | lia | omega)) fun D₁ h₉ F₉ => ?_
      clear F₈
      ktn_no "y"
      refine add_list F₉ (F₉.at 0 rfl) (F₉.nw (lb, lsO us k') (by simp)).1 (by simp; (first | lia | omega)) fun D₂ h₁₀ F₁₀ => ?_
      clear F₉
      ktn_no "y"
      refine new_tuple F₁₀ (by simp) fun T₃ h₁₁ F₁₁ => ?_
      clear F₁₀
      have F₁₂ := (F₁₁.perm (news' := (la, lsO vs k) :: (lb, lsO us k') :: (D₁, lsO ([.ref P] ++ vs) 0) :: (V, lsO [.ref P] 0) :: (T₃, tupO [.str (txS (.node tl tr)) t₃, .ref D₂]) :: (D₂, lsO ([.ref P] ++ vs ++ us) 0) :: ((([(P, tupO [.int (lo : Nat) t1, .int (hi : Nat) t2])] ++ l) ++ l') ++ rest)) (by ktn_no "perm_tac")).drop 4
      dsimp only [List.drop] at F₁₂
      refine hQo _ _ <| Back.of F₁₂ fun G => ?_
      have hpi : prI (Tr.parts lo (.node tl tr)) = ([((lo : Int), (hi : Int))] ++ prI (tl.parts lo)) ++ prI (tr.parts (lo + q₀ + 1)) := by
        show prI ((lo, lo + tl.size + tr.size - 1) :: (tl.parts lo ++ tr.parts (lo + tl.size))) = _
        rw [show lo + tl.size + tr.size - 1 = hi by (first | lia | omega), show lo + tl.size = lo + q₀ + 1 by (first | lia | omega)]
        unfold prI
        rw [List.map_cons, List.map_append]
        rfl
      exact h T₃ D₂ _ _ _ _ _ (by rw [hpi]; exact (PrsIn.one.app hP).app hP') G
end
section
variable {w : World} {B : Heap} {L : Addr} {m cm : PySem.Str → Option Value} {cl : List (PySem.Str × Addr)} {news rest : List (Addr × Obj)} {s₀ s : Shared} {A : Around} {n : Nat} {E : Value → Shared → Prop}
  {h : Heap} {g : Array GenState} {d d₀ : Drawn} {tk tk₀ : Nat} {os : OsState}
/-- a frame's one cell as an object like others -/
theorem Fm.uncell {x : PySem.Str} {c : Addr} (F : Fm w B L [(x, c)] s₀ m cm news s) (h1 : B.get? c = none) (h2 : szTop ≤ c) : ∃ oc, oc.data = .cell (cm x) ∧ Fm w B L [] s₀ m cm ((c, oc) :: news) s := by
  have hl : ([(x, c)] : List (PySem.Str × Addr)).lookup x = some c := by simp
  obtain ⟨oc, hoc, hd⟩ := F.ce x c hl
  obtain ⟨a1, a2, a3⟩ := F.cd x c hl
  exact ⟨oc, hd, { wf := F.wf, ns := F.ns, keep := F.keep, above := F.above
                   nw := fun p hp => by
                     rcases List.mem_cons.mp hp with rfl | hp
                     · exact ⟨hoc, a1, h1, h2⟩
                     · exact F.nw p hp
                   nd := List.nodup_cons.mpr ⟨a2, F.nd⟩
                   ce := fun n c e => by cases e
                   cd := fun n c e => by cases e
                   cp := fun n n' c e => by cases e
                   tb := F.tb, rl := F.rl }⟩
theorem Fm.recell {x : PySem.Str} {c : Addr} {oc : Obj} {v : Option Value} (F : Fm w B L [] s₀ m cm ((c, oc) :: news) s) (ho : oc.data = .cell v) (hv : cm x = v) : Fm w B L [(x, c)] s₀ m cm news s := by
  obtain ⟨a0, a1, a2, a3⟩ := F.nw _ (.head _)
  have hnd := F.nd
  rw [List.map_cons, List.nodup_cons] at hnd
  have key : ∀ n c', ([(x, c)] : List (PySem.Str × Addr)).lookup n = some c' → n = x ∧ c' = c := fun n c' e => by
    rw [List.lookup_cons] at e
    cases hb : n == x with
    | true => rw [hb] at e; exact ⟨beq_iff_eq.mp hb, (Option.some.inj e).symm⟩
    | false => rw [hb] at e; cases e
  exact { wf := F.wf, ns := F.ns, keep := F.keep, above := F.above
          nw := fun p hp => F.nw p (.tail _ hp)
          nd := hnd.2
          ce := fun n c' e => by obtain ⟨rfl, rfl⟩ := key n c' e; exact ⟨oc, a0, by rw [hv]; exact ho⟩
          cd := fun n c' e => by obtain ⟨rfl, rfl⟩ := key n c' e; exact ⟨a1, hnd.1, fun t => tab_ne t a3 rfl⟩
          cp := fun n n' c' e e' => by rw [(key n c' e).1, (key n' c' e').1]
          tb := F.tb, rl := F.rl }
/-! dicts with ints for keys -/
noncomputable abbrev IDict (w : World) (o : Obj) (kvs : List (Int × Value)) : Prop := o.IsDictOf (intKind pw w) kvs
theorem new_dict {pos : Pos} {env : Env} {Q : Value → Shared → Prop} (F : Fm w B L cl s₀ m cm news ⟨h, g, d₀, tk₀, os⟩)
    (q : ∀ D o h', IDict w o [] → Fm w B L cl s₀ m cm ((D, o) :: news) ⟨h', g, d, tk, os⟩ → Q (.ref D) ⟨h', g, d, tk, os⟩) : wpAny (M w) A (eval (.Dict [] [] pos) env) Q E ⟨h, g, d, tk, os⟩ :=
  wpAny_Dict_empty (q _ _ _ ⟨#[], 0, ⟨rfl, rfl, rfl⟩, rfl, fun _ he => by simp at he, Pairs.nil, List.nodup_nil⟩ (F.push1 (g := g) (d := d) (tk := tk) { cls := .type "dict", data := .dict #[] }))
theorem dict_store {D : Addr} {i : Nat} {o : Obj} {kvs : List (Int × Value)} {k : Int} {t : Tok} {v : Value} {Q : Unit → Shared → Prop} (F : Fm w B L cl s₀ m cm news ⟨h, g, d₀, tk₀, os⟩) (hi : news[i]? = some (D, o)) (hd : IDict w o kvs) (hsz : kvs.length ≤ 1000)
    (q : ∀ o' h', IDict w o' (stored kvs k v) → Fm w B L cl s₀ m cm (news.set i (D, o')) ⟨h', g, d, tk + 1, os⟩ → Q () ⟨h', g, d, tk + 1, os⟩) : wpAny (M w) A (setItem (.ref D) (.int k t) v) Q E ⟨h, g, d, tk, os⟩ := by
  refine wpAny_setItem_pairs (s := ⟨h, g, d, tk, os⟩) (hsz := Nat.le_trans hsz (by decide)) (intKind_is _ _ k t) (Heap.dictOf_iff.mpr ⟨o, F.at i hi, hd⟩) fun h' hd' hs => ?_
  obtain ⟨o', ho', hd'⟩ := Heap.dictOf_iff.mp hd'
  exact q o' h' hd' (Fm.set (s := ⟨h, g, d, tk, os⟩) F.withD hi hs ho')
theorem dict_item {value slice : Expr} {D : Addr} {o : Obj} {kvs : List (Int × Value)} {k : Int} {t : Tok} {v : Value} {Q : Value → Shared → Prop} (hx : s.heap.get? D = some o) (hd : IDict w o kvs) (hv : valueAt kvs k = some v) (q : Q v { s with toks := s.toks + 1 })
    (hs : subscripted slice false (.ref D) (.int k t) = operate [.ref D, .int k t] (getItem (.ref D) (.int k t)) := by with_unfolding_all rfl) :
    wpAny (M w) A (subscriptTail value slice (.ref D) (.int k t)) Q E s := by
  have hm := (Heap.dictOf_iff.mpr ⟨o, hx, hd⟩ : s.heap.DictOf (intKind pw w) D kvs).mapOf
  exact sub_tail hm.typeIs slot_dict_getitem.lookup (fun _ _ _ h => wpAny_letTemporaryGo h) (wpAny_getItem_of (intKind_is _ _ k t) hm hv q) hs
/-- the keys in rising order -/
theorem sorted_dict {D : Addr} {i : Nat} {o : Obj} {kvs : List (Int × Value)} {Q : Value → Shared → Prop} (F : Fm w B L cl s₀ m cm news ⟨h, g, d₀, tk₀, os⟩) (hh : A.handled = none) (hi : news[i]? = some (D, o)) (hd : IDict w o kvs) (hsz : kvs.length < 64) (hD : (D == sysModules) = false)
    (q : ∀ S h' tk' ys k, (ys.map (·.1)).Perm (kvs.map (·.1)) → (ys.map (·.1)).Pairwise (· ≤ ·) → Fm w B L cl s₀ m cm ((S, lsO (inV ys) k) :: news) ⟨h', g, d, tk', os⟩ → Q (.ref S) ⟨h', g, d, tk', os⟩) : wpAny (M w) A (call (.builtin "sorted") [.ref D]) Q E ⟨h, g, d, tk, os⟩ := by
  refine call_function_entry kind_sorted plain_sorted entry_sorted (args_sorted1 _) ?_
  unfold Builtin.«sorted»
  refine wpAny_bind (m := checkCount "sorted" 1 1 _) (wpAny_pure ?_)
  obtain ⟨ep, hat⟩ := (Heap.dictOf_iff.mpr ⟨o, F.at i hi, hd⟩ : h.DictOf (intKind pw w) D kvs).dictAt
  refine wpAny_bind (kdu_collect (A := A.in1) (s := ⟨h, g, d, tk, os⟩) (kdl_dict (knd := intKind pw w) (kvs := kvs) (ep := ep) hD) hh hat (Nat.le_trans (Nat.le_of_lt hsz) (by decide)) fun h₁ tk₁ acc hk hacc => ?_)
  have hl : acc.toList.length = kvs.length := by rw [Array.length_toList]; exact hacc.1
  obtain ⟨ys, hys, hym⟩ := ints_of acc.toList (fun j => (kvs.getD j (0, .none)).1) fun j v e => by
    obtain ⟨k, x, hx, hk'⟩ := hacc.2 j v (by rw [← Array.getElem?_toList]; exact e)
    obtain ⟨t, rfl⟩ := Value.isInt_shape hk'
    exact ⟨t, by rw [List.getD_eq_getElem?_getD, hx]; rfl⟩
  have hkeys : ys.map (·.1) = kvs.map (·.1) := by
    rw [hym, hl]
    exact range_getD kvs (0, .none) (fun z => z.1)
  refine wpAny_bind (wpAny_newList ?_ (by rw [hl]; exact Nat.le_trans (Nat.le_of_lt hsz) (by decide)))
  have F₁ : Fm w B L cl s₀ m cm news ⟨h₁, g, d, tk₁, os⟩ := F.keepAll hk
  obtain ⟨a1, a2, a3, a4, a5⟩ := Fm.freshC (a := h₁.objs.size) F₁ (Nat.le_refl _)
  have hoL : (h₁.push (seqObj "list" (inV ys).toArray 0)).get? h₁.objs.size = some (seqObj "list" (inV ys).toArray 0) := Heap.get?_push_size _ rfl
  rw [hys]
  refine wpAny_bind (wpAny_holding (wpAny_call_entry slot_list_sort ⟨_, hoL, rfl⟩ entry_list_sort (list_sort_tree hoL (intsAre ys) (by rw [← hys, hl]; exact hsz) fun out ns' b1 b2 b3 => ⟨_, rfl, ?_⟩) (args_list_sort _)))
  obtain ⟨zs, hz, hzm⟩ := inV_of b1
  obtain ⟨e, he⟩ := sortedHeap_at (vs := inV ys) (out := out) hoL
  have eo : out = (inV zs).toArray := by rw [← hz]
  subst eo
  refine wpAny_pure ⟨_, rfl, q _ _ _ zs e ?_ ?_ ?_⟩
  · rw [hzm, ← hkeys]; exact b2
  · rw [hzm]; exact b3
  · refine Fm.addC (F₁.keepAll (d := d) (tk := tk₁) (os := os) fun b ob eb => ?_) he a1 a2 a3 a4 a5
    have hb : b < h₁.objs.size := Heap.lt_size eb
    rw [sortedHeap_old (Nat.ne_of_lt hb) (by rw [size_push']; exact Nat.lt_succ_of_lt hb)]
    exact Heap.get?_push_of_some _ eb
end
noncomputable abbrev xS : PySem.Str := Str.ofString "x"
noncomputable abbrev spS : PySem.Str := Str.ofString " "
noncomputable abbrev dcS : PySem.Str := Str.ofString ".\r"
noncomputable abbrev dclS : PySem.Str := Str.ofString ".\r\n"
/-- the shelf, the words found, the names seen -/
noncomputable abbrev WSt : Type := List (PySem.Str × PySem.Str) × List (Int × PySem.Str) × Nat
noncomputable def quoteN : Nat → PySem.Str → PySem.Str
  | 0, x => x
  | n + 1, x => quoteF (quoteN n x)
noncomputable def valS (a b : Nat) : PySem.Str := Txt.replace (quoteN b (Txt.mul dcS a)) dclS e0
noncomputable def wStep (st : WSt) (u : PySem.Str) : WSt :=
  if u == xS then (st.1 ++ [(Txt.mul spS st.2.2, xS)], st.2.1, st.2.2 + 1)
  else if u == cCl then (st.1.dropLast.dropLast ++ [((topOf st.1.dropLast).1, (topOf st.1.dropLast).2 ++ (topOf st.1).2)],
    st.2.1 ++ [(((topOf st.1.dropLast).1.length : Int) + ((topOf st.1.dropLast).2.length : Int), valS (topOf st.1.dropLast).2.length (topOf st.1).2.length)], st.2.2)
  else st
noncomputable def valOk (a b : Nat) : Prop := (∀ i, i < b → QOk (quoteN i (Txt.mul dcS a))) ∧ (quoteN b (Txt.mul dcS a)).length ≤ 10000
noncomputable def wOk (st : WSt) (u : PySem.Str) : Prop :=
  st.1.length ≤ 100 ∧ st.2.2 ≤ 100 ∧ st.2.1.length ≤ 100 ∧ (u == cCl → (topOf st.1.dropLast).1.length ≤ 100 ∧ (topOf st.1.dropLast).2.length ≤ 100 ∧ (topOf st.1).2.length ≤ 100 ∧
    (((topOf st.1.dropLast).1.length : Int) + ((topOf st.1.dropLast).2.length : Int)) ∉ st.2.1.map (·.1) ∧ valOk (topOf st.1.dropLast).2.length (topOf st.1).2.length)
noncomputable def WOk : List (Nat × PySem.Str) → WSt → Prop
  | [], _ => True
  | u :: us, st => wOk st u.2 ∧ WOk us (wStep st u.2)
theorem WOk.app : ∀ {us vs : List (Nat × PySem.Str)} {st : WSt}, WOk us st → WOk vs (us.foldl (fun st u => wStep st u.2) st) → WOk (us ++ vs) st
  | [], _, _, _, h => h
  | _ :: _, _, _, h, h' => ⟨h.1, h.2.app h'⟩
/-! names of one sign -/
noncomputable def rep (c n : Nat) : PySem.Str := ⟨(List.replicate n c).toArray⟩
theorem rep_len (c n : Nat) : (rep c n).length = n := by show (List.replicate n c).toArray.size = _; simp
theorem rep_add (c a b : Nat) : rep c a ++ rep c b = rep c (a + b) := by
  refine str_ext ?_
  simp only [rep, Str.cps_append, Array.toList_append]
  exact List.replicate_append_replicate
theorem mul_rep (c n : Nat) : Txt.mul (⟨#[c]⟩ : PySem.Str) n = rep c n := by
  refine str_ext ?_
  rw [mul_one_list]
  simp [rep]
theorem sp_rep (n : Nat) : Txt.mul spS n = rep 32 n := by rw [show spS = ⟨#[32]⟩ by decide]; exact mul_rep 32 n
theorem x_rep : xS = rep 120 1 := by decide
noncomputable def Tr.ent : Nat → Tr → List (Int × PySem.Str)
  | _, .leaf _ => []
  | o, .node l r => l.ent o ++ (r.ent (o + l.size) ++ [(((o + l.size : Nat) : Int), valS l.size r.size)])
theorem ent_key : ∀ (t : Tr) (o : Nat), ∀ p ∈ t.ent o, (o : Int) < p.1 ∧ p.1 < (o + t.size : Nat)
  | .leaf _, o, p, h => by cases h
  | .node l r, o, p, h => by
    have pl := l.size_pos
    have pr := r.size_pos
    show _ ∧ _ < ((o + (l.size + r.size) : Nat) : Int)
    rcases List.mem_append.mp h with h | h
    · have := ent_key l o p h; (first | lia | omega)
    · rcases List.mem_append.mp h with h | h
      · have := ent_key r _ p h; (first | lia | omega)
      · simp at h; rw [h]; dsimp only; (first | lia | omega)
theorem step_no {st : WSt} {u : PySem.Str} (h1 : (u == xS) = false) (h2 : (u == cCl) = false) : wStep st u = st := by
  unfold wStep; rw [h1, h2]; rfl
theorem fold_lab (k p : Nat) (st : WSt) : (labU true k p).foldl (fun st u => wStep st u.2) st = st := by
  match k with
  | 0 | 2 => rfl
  | 1 => exact step_no (u := ⟨#[92, 41]⟩) (by decide) (by decide)
  | 3 => exact step_no (u := ⟨#[92, 34]⟩) (by decide) (by decide)
  | k + 4 => exact step_no (u := ⟨#[92, 40]⟩) (by decide) (by decide)
theorem step_x (st : WSt) : wStep st ⟨#[120]⟩ = (st.1 ++ [(rep 32 st.2.2, rep 120 1)], st.2.1, st.2.2 + 1) := by
  unfold wStep; rw [show ((⟨#[120]⟩ : PySem.Str) == xS) = true by decide, if_pos rfl, sp_rep, x_rep]
theorem step_cl (sh : List (PySem.Str × PySem.Str)) (ws : List (Int × PySem.Str)) (o a b c : Nat) :
    wStep (sh ++ [(rep 32 o, rep 120 a)] ++ [(rep 32 c, rep 120 b)], ws, o + a + b) ⟨#[41]⟩ = (sh ++ [(rep 32 o, rep 120 (a + b))], ws ++ [(((o + a : Nat) : Int), valS a b)], o + a + b) := by
  unfold wStep
  rw [show ((⟨#[41]⟩ : PySem.Str) == xS) = false by decide, show ((⟨#[41]⟩ : PySem.Str) == cCl) = true by decide, if_neg Bool.false_ne_true, if_pos rfl]
  dsimp only
  rw [List.dropLast_concat, List.dropLast_concat]
  unfold topOf
  rw [List.getLastD_concat, List.getLastD_concat]
  dsimp only
  rw [rep_len, rep_len, rep_len, rep_add]
  rfl
theorem words_tr : ∀ (t : Tr) (o p : Nat) (sh : List (PySem.Str × PySem.Str)) (ws : List (Int × PySem.Str)),
    (t.un true p).foldl (fun st u => wStep st u.2) (sh, ws, o) = (sh ++ [(rep 32 o, rep 120 t.size)], ws ++ t.ent o, o + t.size)
  | .leaf k, o, p, sh, ws => by
    show (labU true k (p + 1)).foldl (fun st u => wStep st u.2) (wStep (sh, ws, o) ⟨#[120]⟩) = _
    rw [fold_lab, step_x]
    show _ = (sh ++ [(rep 32 o, rep 120 1)], ws ++ [], o + 1)
    rw [List.append_nil]
  | .node l r, o, p, sh, ws => by
    show (l.un true (p + 1) ++ (r.un true _ ++ [((_ : Nat), (⟨#[41]⟩ : PySem.Str))])).foldl (fun st u => wStep st u.2) (wStep (sh, ws, o) ⟨#[40]⟩) = _
    rw [step_no (by decide) (by decide), List.foldl_append, List.foldl_append, words_tr l, words_tr r, List.foldl_cons, List.foldl_nil]
    show wStep _ ⟨#[41]⟩ = _
    rw [step_cl]
    show _ = (sh ++ [(rep 32 o, rep 120 (l.size + r.size))], ws ++ (l.ent o ++ (r.ent (o + l.size) ++ [(((o + l.size : Nat) : Int), valS l.size r.size)])), o + (l.size + r.size))
    rw [Nat.add_assoc o]
    simp
theorem ok_lab (k p : Nat) (st : WSt) (h1 : st.1.length ≤ 100) (h2 : st.2.2 ≤ 100) (h3 : st.2.1.length ≤ 100) : WOk (labU true k p) st := by
  have key : ∀ u : PySem.Str, (u == cCl) = false → wOk st u := fun u h => ⟨h1, h2, h3, fun q => by rw [h] at q; cases q⟩
  match k with
  | 0 | 2 => trivial
  | 1 => exact ⟨key ⟨#[92, 41]⟩ (by decide), trivial⟩
  | 3 => exact ⟨key ⟨#[92, 34]⟩ (by decide), trivial⟩
  | k + 4 => exact ⟨key ⟨#[92, 40]⟩ (by decide), trivial⟩
theorem ent_len : ∀ (t : Tr) (o : Nat), (t.ent o).length + 1 = t.size
  | .leaf _, o => rfl
  | .node l r, o => by
    have a := ent_len l o
    have b := ent_len r (o + l.size)
    show (l.ent o ++ (r.ent (o + l.size) ++ [_])).length + 1 = l.size + r.size
    simp; (first | lia | omega)
theorem words_ok (hv : ∀ a b, 0 < a → 0 < b → a + b ≤ 7 → valOk a b) : ∀ (t : Tr) (o p : Nat) (sh : List (PySem.Str × PySem.Str)) (ws : List (Int × PySem.Str)),
    t.size ≤ 7 → sh.length + t.size ≤ 100 → o + t.size ≤ 100 → ws.length + t.size ≤ 100 → (∀ q ∈ ws, q.1 ≤ (o : Int)) → WOk (t.un true p) (sh, ws, o)
  | .leaf k, o, p, sh, ws, h7, h1, h2, h3, h4 => by
    have hz : Tr.size (.leaf k) = 1 := rfl
    rw [hz] at h1 h2 h3
    refine ⟨⟨by dsimp only; (first | lia | omega), by dsimp only; (first | lia | omega), by dsimp only; (first | lia | omega), fun q => absurd q (show ¬ ((⟨#[120]⟩ : PySem.Str) == cCl) = true by decide)⟩, ?_⟩
    show WOk (labU true k (p + 1)) (wStep (sh, ws, o) ⟨#[120]⟩)
    rw [step_x]
    exact ok_lab _ _ _ (by simp; (first | lia | omega)) (by dsimp only; (first | lia | omega)) (by dsimp only; (first | lia | omega))
  | .node l r, o, p, sh, ws, h7, h1, h2, h3, h4 => by
    have pl := l.size_pos
    have pr := r.size_pos
    have hz : Tr.size (.node l r) = l.size + r.size := rfl
    rw [hz] at h7 h1 h2 h3
    have el := ent_len l o
    have er := ent_len r (o + l.size)
    refine ⟨⟨by dsimp only; (first | lia | omega), by dsimp only; (first | lia | omega), by dsimp only; (first | lia | omega), fun q => absurd q (show ¬ ((⟨#[40]⟩ : PySem.Str) == cCl) = true by decide)⟩, ?_⟩
    show WOk (l.un true (p + 1) ++ (r.un true _ ++ [((_ : Nat), (⟨#[41]⟩ : PySem.Str))])) (wStep (sh, ws, o) ⟨#[40]⟩)
    rw [step_no (by decide) (by decide)]
    refine (words_ok hv l o _ sh ws (by ktn_no "om") (by ktn_no "om") (by ktn_no "om") (by ktn_no "om") h4).app ?_
    rw [words_tr l]
    have hk : ∀ q ∈ ws ++ l.ent o, q.1 ≤ ((o + l.size : Nat) : Int) := fun q hq => by
      rcases List.mem_append.mp hq with hq | hq
      · have := h4 q hq; (first | lia | omega)
      · have := ent_key l o q hq; (first | lia | omega)
    refine (words_ok hv r (o + l.size) _ _ _ (by ktn_no "om") (by simp; (first | lia | omega)) (by ktn_no "om") (by simp; (first | lia | omega)) hk).app ?_
    rw [words_tr r]
    refine ⟨⟨by simp; (first | lia | omega), by dsimp only; (first | lia | omega), by simp; (first | lia | omega), fun _ => ?_⟩, trivial⟩
    dsimp only
    rw [List.dropLast_concat]
    unfold topOf
    rw [List.getLastD_concat, List.getLastD_concat]
    dsimp only
    rw [rep_len, rep_len, rep_len]
    refine ⟨by (first | lia | omega), by (first | lia | omega), by (first | lia | omega), fun q => ?_, hv _ _ pl pr (by ktn_no "om")⟩
    obtain ⟨y, hy, e⟩ := List.mem_map.mp q
    rcases List.mem_append.mp hy with hy | hy
    · rcases List.mem_append.mp hy with hy | hy
      · have := h4 y hy; (first | lia | omega)
      · have := ent_key l o y hy; (first | lia | omega)
    · have := ent_key r _ y hy; (first | lia | omega)
/-! what quotedata makes of rows of one dot -/
noncomputable def quoteNZ : Nat → PySem.Str → PySem.Str
  | 0, x => x
  | n + 1, x => quoteZ (quoteNZ n x)
theorem nz_len : ∀ a, a < 7 → ∀ i, i < 7 → (quoteNZ i (Txt.mul dcS (a : Nat))).length ≤ 1000 := by decide +kernel
theorem quoteN_z {a : Nat} (ha : a < 7) : ∀ i, i < 7 → quoteN i (Txt.mul dcS a) = quoteNZ i (Txt.mul dcS a)
  | 0, _ => rfl
  | i + 1, h => by
    show quoteF (quoteN i _) = quoteZ (quoteNZ i _)
    rw [quoteN_z ha i (by ktn_no "om")]
    exact (quote_fast (nz_len a ha i (by ktn_no "om"))).2
theorem val_ok (a b : Nat) (ha : 0 < a) (hb : 0 < b) (h : a + b ≤ 7) : valOk a b := by
  refine ⟨fun i hi => ?_, ?_⟩
  · rw [quoteN_z (by ktn_no "om") i (by ktn_no "om")]
    exact (quote_fast (nz_len a (by ktn_no "om") i (by ktn_no "om"))).1
  · rw [quoteN_z (by ktn_no "om") b (by ktn_no "om")]
    exact Nat.le_trans (nz_len a (by ktn_no "om") b (by ktn_no "om")) (by decide)
theorem val_z : ∀ a, a < 7 → ∀ b, b < 7 → 0 < a → 0 < b → a + b ≤ 7 → Txt.replace (quoteNZ b (Txt.mul dcS (a : Nat))) dclS e0 = rep 46 (a * b) := by decide +kernel
theorem val_rep {a b : Nat} (ha : 0 < a) (hb : 0 < b) (h : a + b ≤ 7) : valS a b = rep 46 (a * b) := by
  unfold valS
  rw [quoteN_z (by ktn_no "om") b (by ktn_no "om")]
  exact val_z a (by ktn_no "om") b (by ktn_no "om") ha hb h
/-- the dict's pairs: a text for each key -/
inductive KV : List (Int × Value) → List (Int × PySem.Str) → Prop
  | nil : KV [] []
  | snoc {kvs ws k x t} : KV kvs ws → KV (kvs ++ [(k, .str x t)]) (ws ++ [(k, x)])
theorem KV.keys {kvs : List (Int × Value)} {ws : List (Int × PySem.Str)} (h : KV kvs ws) : kvs.map (·.1) = ws.map (·.1) := by
  induction h with
  | nil => rfl
  | snoc _ ih => simp [ih]
theorem KV.len {kvs : List (Int × Value)} {ws : List (Int × PySem.Str)} (h : KV kvs ws) : kvs.length = ws.length := by
  have := congrArg List.length h.keys
  simpa using this
theorem KV.get {kvs : List (Int × Value)} {ws : List (Int × PySem.Str)} (h : KV kvs ws) : ∀ (i : Nat) (p : Int × PySem.Str), ws[i]? = some p → ∃ t, kvs[i]? = some (p.1, .str p.2 t) := by
  induction h with
  | nil => intro i p e; simp at e
  | @snoc kvs ws k x t h0 ih =>
    intro i p e
    by_cases hi : i < ws.length
    · rw [List.getElem?_append_left hi] at e
      rw [List.getElem?_append_left (by rw [h0.len]; exact hi)]
      exact ih i p e
    · have hlt := (List.getElem?_eq_some_iff.mp e).1
      simp only [List.length_append, List.length_singleton] at hlt
      have hi' : i = ws.length := by (first | lia | omega)
      subst hi'
      rw [List.getElem?_append_right (Nat.le_refl _), Nat.sub_self] at e
      simp at e
      subst e
      exact ⟨t, by rw [List.getElem?_append_right (by rw [h0.len]; exact Nat.le_refl _), h0.len, Nat.sub_self]; rfl⟩
theorem stored_new {kvs : List (Int × Value)} {k : Int} {v : Value} (h : k ∉ kvs.map (·.1)) : stored kvs k v = kvs ++ [(k, v)] := by
  unfold stored
  rw [if_neg]
  intro q
  obtain ⟨y, hy, e⟩ := List.any_eq_true.mp q
  exact h (List.mem_map.mpr ⟨y, hy, of_decide_eq_true e⟩)
noncomputable def ifT : Stmt → List Stmt
  | .If _ b _ _ => b
  | _ => []
noncomputable def ifE : Stmt → List Stmt
  | .If _ _ b _ => b
  | _ => []
noncomputable abbrev lwFor : Stmt := body_law_words.getD 1 default
noncomputable abbrev lwT : Expr := (forParts lwFor).1
noncomputable abbrev lwB : List Stmt := (forParts lwFor).2.2.1
noncomputable abbrev lwFor2 : Stmt := (ifT ((ifE (lwB.getD 0 default)).getD 0 default)).getD 3 default
noncomputable abbrev lwT2 : Expr := (forParts lwFor2).1
noncomputable abbrev lwB2 : List Stmt := (forParts lwFor2).2.2.1
noncomputable abbrev envW (L : Addr) : Env := callEnvC fd_law_words L a_law_words
section
variable {w : World} {B : Heap} {L I : Addr} {m cm : PySem.Str → Option Value} {own rest : List (Addr × Obj)} {s₀ s : Shared} {A : Around} {n : Nat} {Q : Flow → Shared → Prop} {x d : Addr} {g : Nat}
theorem Fm.rebaseC {cl : List (PySem.Str × Addr)} {news : List (Addr × Obj)} (F : Fm w B L cl s₀ m cm news s) : Fm w B L cl s m cm news s := { F with rl := Rel.refl s }
theorem Fm.unbaseC {cl : List (PySem.Str × Addr)} {news : List (Addr × Obj)} {s₁ : Shared} (F : Fm w B L cl s m cm news s₁) (r : Rel s₀ s) : Fm w B L cl s₀ m cm news s₁ := { F with rl := r.trans F.rl }
theorem quote_loop (R : Room (n + 12) A) {b : Nat} {y : PySem.Str} (hok : ∀ i, i < b → QOk (quoteN i y)) :
    ∀ (k i : Nat) (m : PySem.Str → Option Value) (o : Obj) (s : Shared) (t : Tok), i + k = b → ObR 0 b i o → Fm w B L [("words", L + 1)] s₀ m cm ((I, o) :: rest) s → m "rows" = some (.str (quoteN i y) t) →
      (∀ m' t' s', (∀ z : PySem.Str, z ≠ "turn" → z ≠ "rows" → m' z = m z) → m' "rows" = some (.str (quoteN b y) t') → Fm w B L [("words", L + 1)] s₀ m' cm rest s' → Q .next s') →
      LoopC w A lwT2 (.ref I) lwB2 [] (envW L) Q s
  | 0, i, m, o, s, t, hi, ho, F, m1, hq => by
    refine loop_step ?_
    have S := steps_range (w := w) I 0 1 b
    obtain ⟨h, g, dd, tk, os⟩ := s
    refine F.endI S R.handled (by ktn_no "om") ho trivial fun h' tk' F' => ?_
    dsimp only
    have : i = b := by (first | lia | omega)
    subst this
    exact wpAny_execs_nil (hq m t _ (fun _ _ _ => rfl) m1 F')
  | k + 1, i, m, o, s, t, hi, ho, F, m1, hq => by
    refine loop_step ?_
    have S := steps_range (w := w) I 0 1 b
    obtain ⟨h, g, dd, tk, os⟩ := s
    refine F.nextI (d := dd) S (by ktn_no "om") ho trivial fun v h₁ k₁ o₁ hv ho₁ F₁ => ?_
    obtain ⟨ti, rfl⟩ := hv
    dsimp only
    refine wpAny_pure (wpAny_assign_Name ?_)
    refine st_L F₁ (by kernel_rfl) (by kernel_rfl!) (by kernel_rfl) fun h₂ F₂ => ?_
    clear F F₁
    have n1 : upd m "turn" (.int (0 + (i : Nat) * 1) ti) "rows" = some (.str (quoteN i y) t) := m1
    have n2 : ∀ z : PySem.Str, z ≠ "turn" → upd m "turn" (.int (0 + (i : Nat) * 1) ti) z = m z := fun z hz => if_neg hz
    revert n1 n2 F₂
    generalize upd m "turn" (.int (0 + (i : Nat) * 1) ti) = m₂
    intro F₂ n1 n2
    ktn_no "ast"
    ktn_no "z"
    refine quotedata_spec (n := n) (R.less (by ktn_no "le")) (F₂.toks _) (hok i (by ktn_no "om")) fun t₂ s' F₃ => ?_
    obtain ⟨h₃, g₃, d₃, k₃, o₃⟩ := s'
    clear F₂
    ktn_no "z"
    rename_i h₄ F₄
    refine quote_loop R hok k (i + 1) _ o₁ _ t₂ (by ktn_no "om") ho₁ F₄ (by ktn_no "k_val") fun m' t' s' hm' hr' F₅ => ?_
    exact hq m' t' s' (fun z h1 h2 => ((hm' z h1 h2).trans (if_neg h2)).trans (n2 z h1)) hr' F₅
end
section
variable {w : World} {B : Heap} {L I : Addr} {m cm : PySem.Str → Option Value} {own rest : List (Addr × Obj)} {s₀ s : Shared} {A : Around} {n : Nat} {Q : Flow → Shared → Prop} {x d : Addr} {g : Nat}
theorem rep_call {E : Value → Shared → Prop} {y z v : PySem.Str} {t : Tok} {k : Nat} {Q : Value → Shared → Prop} (hk : 0 < k) (hyz : (y == z) = false) (hv : v.length ≤ 10000) (hz : z.length ≤ 14)
    (hq : ∀ t' k', Q (.str (Txt.replace v y z) t') { s with toks := k' }) : wpAny (M w) A (call (.builtin "str.replace") [.str v t, .str y k, .str z (k + 1)]) Q E s :=
  SC.replaceW (Nat.ne_of_gt hk) (Nat.succ_ne_zero k) (Nat.ne_of_lt (Nat.lt_succ_self k)) hyz (Nat.le_trans hv (by decide)) hz hq
theorem words_loop (R : Room (n + 30) A) (HC : OwnC B [("words", L + 1)]) (c1 : cm "words" = some (.ref d)) :
    ∀ (us : List (Nat × PySem.Str)) (st : WSt) (m : PySem.Str → Option Value) (own oa : List (Addr × Obj)) (od : Obj) (kvs : List (Int × Value)) (gs : GenState) (s : Shared) (t : Tok),
      GenSt w A us I g own gs → s.gens[g]? = some gs → s₀.gens.size ≤ g → AccP x st.1 0 oa → IDict w od kvs → KV kvs st.2.1 → WOk us st → Fm w B L [("words", L + 1)] s₀ m cm (own ++ (oa ++ (d, od) :: rest)) s → m "shelf" = some (.ref x) → m "seen" = some (.int (st.2.2 : Nat) t) →
      (∀ m' oa' od' kvs' s', Fm w B L [("words", L + 1)] s₀ m' cm (oa' ++ (d, od') :: rest) s' → IDict w od' kvs' → KV kvs' (us.foldl (fun st u => wStep st u.2) st).2.1 → Q .next s') →
      LoopC w A lwT (.ref I) lwB [] (envW L) Q s
  | [], st, m, own, oa, od, kvs, gs, s, t, hst, hg, hs, P, hd, hkv, hok, F, m1, m2, hq => by
    refine loop_step ?_
    obtain ⟨oc, hoc, F₁⟩ := F.uncell (HC "words" (L + 1) (by simp)).1 (HC "words" (L + 1) (by simp)).2
    have F₂ := F₁.perm (news' := own ++ ((L + 1, oc) :: (oa ++ (d, od) :: rest))) (by ktn_no "perm_tac")
    refine gen_next (n := n) (R.less (by ktn_no "le")) F₂ hst hg hs fun s' F' => ?_
    dsimp only
    exact wpAny_execs_nil (hq _ _ _ _ _ (F'.recell hoc rfl) hd hkv)
  | (a, b) :: us, st, m, own, oa, od, kvs, gs, s, t, hst, hg, hs, P, hd, hkv, hok, F, m1, m2, hq => by
    refine loop_step ?_
    obtain ⟨oc, hoc, F₁⟩ := F.uncell (HC "words" (L + 1) (by simp)).1 (HC "words" (L + 1) (by simp)).2
    have F₂ := F₁.perm (news' := own ++ ((L + 1, oc) :: (oa ++ (d, od) :: rest))) (by ktn_no "perm_tac")
    clear F F₁
    refine gen_next (n := n) (R.less (by ktn_no "le")) F₂ hst hg hs fun T u1 u2 own' gs' s' hst' F' hg' => ?_
    dsimp only
    refine gen_go hst' F' ?_
    have F'' := (F'.perm (news' := (L + 1, oc) :: (T, tupO [.int a u1, .str b u2]) :: (own' ++ (oa ++ (d, od) :: rest))) (by ktn_no "perm_tac")).recell hoc rfl
    obtain ⟨h₂, g₂, d₂, k₂, o₂⟩ := s'
    clear F₂ F'
    refine assign_pair F'' R.handled (F''.at 0 rfl) rfl (by kernel_rfl) (by kernel_rfl) (by kernel_rfl) fun h₃ k₃ F₃ => ?_
    have F₄ := F₃.drop 1
    dsimp only [List.drop] at F₄
    clear F'' F₃
    obtain ⟨⟨ok1, ok2, ok3, ok4⟩, hok'⟩ := hok
    simp only [List.foldl_cons] at hq
    have n1 : upd (upd m "place" (.int a u1)) "unit" (.str b u2) "shelf" = some (.ref x) := m1
    have n2 : upd (upd m "place" (.int a u1)) "unit" (.str b u2) "unit" = some (.str b u2) := rfl
    have n3 : upd (upd m "place" (.int a u1)) "unit" (.str b u2) "seen" = some (.int (st.2.2 : Nat) t) := m2
    revert n1 n2 n3 F₄
    generalize upd (upd m "place" (.int a u1)) "unit" (.str b u2) = m₄
    intro F₄ n1 n2 n3
    have G₁ := F₄.perm (news' := oa ++ (own' ++ (d, od) :: rest)) (by ktn_no "perm_tac")
    clear F₄
    have r₁ := G₁.rl
    replace G₁ := G₁.rebaseC
    ktn_no "ast"
    ktn_no "z"
    cases h1 : b == xS with
    | true =>
      have e : wStep st b = (st.1 ++ [(Txt.mul spS st.2.2, xS)], st.2.1, st.2.2 + 1) := by simp only [wStep, h1]; rfl
      dsimp only at hq hok'
      rw [e] at hq hok'
      rw [if_pos rfl]
      ktn_no "z"
      refine accP_method G₁ P (by ktn_no "k_ev") (by ktn_no "k_ev") (by decide +kernel) (by decide +kernel) ?_
      ktn_no "z"
      refine str_mul (x := spS) (by decide) (by ktn_no "om") fun t₅ k₅ => ?_
      ktn_no "z"
      refine push_spec (n := n) (R.less (by ktn_no "le")) (G₁.toks _) P (by ktn_no "om") fun oa' s' P' G₂ => ?_
      obtain ⟨h₅, g₅, d₅, k₅, o₅⟩ := s'
      clear G₁
      ktn_no "z"
      rename_i h₆ G₃
      have hg₂ := G₂.rl.gens _ _ hg'
      exact words_loop R HC c1 us (st.1 ++ [(Txt.mul spS st.2.2, xS)], st.2.1, st.2.2 + 1) _ own' oa' od kvs gs' _ _ hst' hg₂ hs P' hd hkv hok' ((G₃.unbaseC r₁).perm (by ktn_no "perm_tac")) n1 (by ktn_no "k_val") hq
    | false =>
      rw [if_neg Bool.false_ne_true]
      ktn_no "z"
      cases h2 : b == cCl with
      | false =>
        have e : wStep st b = st := step_no h1 h2
        dsimp only at hq hok'
        rw [e] at hq hok'
        rw [if_neg Bool.false_ne_true]
        ktn_no "z"
        exact words_loop R HC c1 us st m₄ own' oa od kvs gs' _ t hst' hg' hs P hd hkv hok' (((G₁.toks _).unbaseC r₁).perm (by ktn_no "perm_tac")) n1 n3 hq
      | true =>
        have e : wStep st b = (st.1.dropLast.dropLast ++ [((topOf st.1.dropLast).1, (topOf st.1.dropLast).2 ++ (topOf st.1).2)],
            st.2.1 ++ [(((topOf st.1.dropLast).1.length : Int) + ((topOf st.1.dropLast).2.length : Int), valS (topOf st.1.dropLast).2.length (topOf st.1).2.length)], st.2.2) := by simp only [wStep, h1, h2]; rfl
        dsimp only at hq hok' h2 ok4
        rw [e] at hq hok'
        obtain ⟨ok5, ok6, ok7, ok8, ok9, ok10⟩ := ok4 h2
        rw [if_pos rfl]
        ktn_no "z"
        refine Assign_Tuple ?_ rfl rfl
        ktn_no "z"
        refine accP_method G₁ P (by ktn_no "k_ev") (by ktn_no "k_ev") (by decide +kernel) (by decide +kernel) ?_
        ktn_no "z"
        refine pop_spec (n := n) (R.less (by ktn_no "le")) (G₁.toks _) P (by ktn_no "om") fun oa₂ q₂ tq1 tq2 s' P₂ G₂ => ?_
        obtain ⟨h₅, g₅, d₅, k₅, o₅⟩ := s'
        clear G₁
        refine assign_pair G₂ R.handled (G₂.at 0 rfl) rfl (by kernel_rfl) (by kernel_rfl) (by kernel_rfl) fun h₆ k₆ G₃ => ?_
        clear G₂
        have G₄ := G₃.drop 1
        simp only [List.cons_append, List.drop] at G₄
        clear G₃
        have p1 : upd (upd m₄ "blanks" (.str (topOf st.1).1 tq1)) "right" (.str (topOf st.1).2 tq2) "shelf" = some (.ref x) := n1
        have p2 : upd (upd m₄ "blanks" (.str (topOf st.1).1 tq1)) "right" (.str (topOf st.1).2 tq2) "right" = some (.str (topOf st.1).2 tq2) := rfl
        have p3 : upd (upd m₄ "blanks" (.str (topOf st.1).1 tq1)) "right" (.str (topOf st.1).2 tq2) "seen" = some (.int (st.2.2 : Nat) t) := n3
        replace G₄ : Fm w B L [("words", L + 1)] _ (upd (upd m₄ "blanks" (.str (topOf st.1).1 tq1)) "right" (.str (topOf st.1).2 tq2)) cm _ _ := G₄
        revert p1 p2 p3 G₄
        generalize upd (upd m₄ "blanks" (.str (topOf st.1).1 tq1)) "right" (.str (topOf st.1).2 tq2) = m₆
        intro p1 p2 p3 G₄
        refine wpAny_execs_cons (Assign_Tuple ?_ rfl rfl)
        ktn_no "z"
        refine accP_method G₄ P₂ (by ktn_no "k_ev") (by ktn_no "k_ev") (by decide +kernel) (by decide +kernel) ?_
        ktn_no "z"
        refine pop_spec (n := n) (R.less (by ktn_no "le")) (G₄.toks _) P₂ (by simp; (first | lia | omega)) fun oa₃ q₃ tq3 tq4 s' P₃ G₅ => ?_
        obtain ⟨h₇, g₇, d₇, k₇, o₇⟩ := s'
        clear G₄
        refine assign_pair G₅ R.handled (G₅.at 0 rfl) rfl (by kernel_rfl) (by kernel_rfl) (by kernel_rfl) fun h₈ k₈ G₆ => ?_
        clear G₅
        have G₇ := G₆.drop 1
        simp only [List.cons_append, List.drop] at G₇
        clear G₆
        have r1 : upd (upd m₆ "ahead" (.str (topOf st.1.dropLast).1 tq3)) "left" (.str (topOf st.1.dropLast).2 tq4) "shelf" = some (.ref x) := p1
        have r2 : upd (upd m₆ "ahead" (.str (topOf st.1.dropLast).1 tq3)) "left" (.str (topOf st.1.dropLast).2 tq4) "right" = some (.str (topOf st.1).2 tq2) := p2
        have r3 : upd (upd m₆ "ahead" (.str (topOf st.1.dropLast).1 tq3)) "left" (.str (topOf st.1.dropLast).2 tq4) "seen" = some (.int (st.2.2 : Nat) t) := p3
        have r4 : upd (upd m₆ "ahead" (.str (topOf st.1.dropLast).1 tq3)) "left" (.str (topOf st.1.dropLast).2 tq4) "ahead" = some (.str (topOf st.1.dropLast).1 tq3) := rfl
        have r5 : upd (upd m₆ "ahead" (.str (topOf st.1.dropLast).1 tq3)) "left" (.str (topOf st.1.dropLast).2 tq4) "left" = some (.str (topOf st.1.dropLast).2 tq4) := rfl
        replace G₇ : Fm w B L [("words", L + 1)] _ (upd (upd m₆ "ahead" (.str (topOf st.1.dropLast).1 tq3)) "left" (.str (topOf st.1.dropLast).2 tq4)) cm _ _ := G₇
        revert r1 r2 r3 r4 r5 G₇
        generalize upd (upd m₆ "ahead" (.str (topOf st.1.dropLast).1 tq3)) "left" (.str (topOf st.1.dropLast).2 tq4) = m₈
        intro r1 r2 r3 r4 r5 G₇
        generalize (topOf st.1.dropLast).1 = ahead at *
        generalize (topOf st.1.dropLast).2 = left at *
        generalize (topOf st.1).2 = right at *
        generalize (topOf st.1).1 = blanks at *
        ktn_no "z"
        refine SBL.len (by ktn_no "om") ?_
        refine str_mul (x := dcS) (by decide) (by ktn_no "om") fun t₉ k₉ => ?_
        ktn_no "z"
        rename_i h₉ G₈
        refine wpAny_toks ?_
        refine wFor ?_ (fun x => rfl)
        ktn_no "z"
        refine SBL.len (by ktn_no "om") ?_
        ktn_no "z"
        refine range1 G₈ fun r h₁₀ t' u' v' k₁₀ G₉ => ?_
        refine iter_range G₉ (by ktn_no "om") fun J oJ h₁₁ hoJ G₁₀ => ?_
        clear G₈ G₉
        refine quote_loop (n := n) (b := right.length) (y := Txt.mul dcS left.length) (R.less (by ktn_no "le")) ok9 right.length 0 _ oJ _ t₉ (by ktn_no "om") hoJ (G₁₀.toks _) (by ktn_no "k_val") fun m₉ t₁₂ s' hm₉ hr₉ G₁₁ => ?_
        intro htk
        obtain ⟨h₁₂, g₁₂, d₁₂, k₁₂, o₁₂⟩ := s'
        clear G₁₀
        have v1 : m₉ "shelf" = some (.ref x) := (hm₉ _ (by decide) (by decide)).trans r1
        have v3 : m₉ "seen" = some (.int (st.2.2 : Nat) t) := (hm₉ _ (by decide) (by decide)).trans r3
        have v4 : m₉ "ahead" = some (.str ahead tq3) := (hm₉ _ (by decide) (by decide)).trans r4
        have v5 : m₉ "left" = some (.str left tq4) := (hm₉ _ (by decide) (by decide)).trans r5
        have v2 : m₉ "right" = some (.str right tq2) := (hm₉ _ (by decide) (by decide)).trans r2
        clear hm₉ r1 r2 r3 r4 r5
        dsimp only at htk ⊢
        ktn_no "z"
        refine wpAny_Assign_Subscript ?_ (by kernel_rfl)
        ktn_no "z"
        refine GM.replace ?_
        ktn_no "z"
        refine rep_call (Nat.lt_of_lt_of_le (Nat.succ_pos _) htk) (by decide) ok10 (by decide) fun t₁₃ k₁₃ => ?_
        ktn_no "z"
        refine SBL.len (by ktn_no "om") ?_
        ktn_no "z"
        refine SBL.len (by ktn_no "om") ?_
        ktn_no "z"
        have G₁₂ := G₁₁.perm (news' := (d, od) :: (oa₃ ++ (own' ++ rest))) (by ktn_no "perm_tac")
        refine dict_store G₁₂ (i := 0) rfl hd (by rw [hkv.len]; (first | lia | omega)) fun od' h₁₄ hd' G₁₃ => ?_
        clear G₁₁ G₁₂
        dsimp only [List.set] at G₁₃
        rw [stored_new (by rw [hkv.keys]; exact ok8)] at hd'
        have G₁₄ := G₁₃.perm (news' := oa₃ ++ (own' ++ (d, od') :: rest)) (by ktn_no "perm_tac")
        clear G₁₃
        ktn_no "z"
        refine accP_method G₁₄ P₃ (by ktn_no "k_ev") (by ktn_no "k_ev") (by decide +kernel) (by decide +kernel) ?_
        ktn_no "z"
        have hz : (1000 : Nat) ≤ sizeLine := by decide
        refine SB.add (fun t₁₅ k₁₅ => ?_) (by ktn_no "om")
        ktn_no "z"
        refine push_spec (n := n) (R.less (by ktn_no "le")) (G₁₄.toks _) P₃ (by simp; (first | lia | omega)) fun oa₄ s' P₄ G₁₅ => ?_
        obtain ⟨h₁₆, g₁₆, d₁₆, k₁₆, o₁₆⟩ := s'
        clear G₁₄
        ktn_no "z"
        have hg₂ := G₁₅.rl.gens _ _ hg'
        exact words_loop R HC c1 us (st.1.dropLast.dropLast ++ [(ahead, left ++ right)], st.2.1 ++ [((ahead.length : Int) + (left.length : Int), valS left.length right.length)], st.2.2) m₉ own' oa₄ od' _ gs' _ t hst' hg₂ hs P₄ hd' hkv.snoc hok' ((G₁₅.unbaseC r₁).perm (by ktn_no "perm_tac")) v1 v3 hq
end
noncomputable def wEnd (x : PySem.Str) : List (Int × PySem.Str) := ((units x).foldl (fun st u => wStep st u.2) ([], [], 0)).2.1
noncomputable def wVal (x : PySem.Str) (k : Int) : PySem.Str := ((wEnd x).lookup k).getD e0
theorem lookup_at : ∀ (ws : List (Int × PySem.Str)) (i : Nat) (k : Int) (v : PySem.Str), (ws.map (·.1)).Nodup → ws[i]? = some (k, v) → ws.lookup k = some v
  | [], i, k, v, _, h => by simp at h
  | (a, b) :: ws, 0, k, v, _, h => by
    simp at h
    rw [List.lookup_cons, h.1, beq_self_eq_true, h.2]
  | (a, b) :: ws, i + 1, k, v, hn, h => by
    rw [List.map_cons, List.nodup_cons] at hn
    have h' : ws[i]? = some (k, v) := by simpa using h
    have hne : k ≠ a := fun e => hn.1 (List.mem_map.mpr ⟨(k, v), List.mem_of_getElem? h', e⟩)
    rw [List.lookup_cons, beq_false_of_ne hne]
    exact lookup_at ws i k v hn.2 h'
theorem dict_at {w : World} {o : Obj} {kvs : List (Int × Value)} {ws : List (Int × PySem.Str)} (hd : IDict w o kvs) (h : KV kvs ws) {k : Int} (hk : k ∈ ws.map (·.1)) : ∃ t, valueAt kvs k = some (.str ((ws.lookup k).getD e0) t) := by
  obtain ⟨es, ep, _, _, _, _, hn⟩ := hd
  obtain ⟨⟨k', v⟩, hm, rfl⟩ := List.mem_map.mp hk
  obtain ⟨i, hi⟩ := List.getElem?_of_mem hm
  obtain ⟨t, ht⟩ := h.get i _ hi
  refine ⟨t, ?_⟩
  rw [lookup_at ws i k' v (by rw [← h.keys]; exact hn) hi]
  exact valueAt_of_get hn ht
section
variable {w : World} {B : Heap} {L : Addr} {m cm : PySem.Str → Option Value} {cl : List (PySem.Str × Addr)} {rest : List (Addr × Obj)} {s₀ s : Shared} {A : Around} {n : Nat} {E : Value → Shared → Prop} {Q : Value → Shared → Prop}
theorem words_spec {x : PySem.Str} {tx : Tok} {ks : List Int} (R : Room (n + 61) A) (F : Fm w B L cl s₀ m cm rest s) (ha : x.cps.all (· < 128) = true) (hok : WOk (units x) ([], [], 0)) (hl : (wEnd x).length < 64) (hp : ks.Perm ((wEnd x).map (·.1))) (hs : ks.Pairwise (· ≤ ·))
    (h : ∀ W ws k s', ws.map (·.1) = ks.map (wVal x) → Fm w B L cl s₀ m cm ((W, lsO (strValues ws) k) :: rest) s' → Q (.ref W) s') :
    wpAny (M w) A (call (.ref a_law_words) [.str x tx] []) Q E s := by
  refine call_fn_cells (n := n + 60) (fd := fd_law_words) (binds := [("live", .str x tx)]) R F (lk_law_words _) (cd_law_words _) rfl (by rfl) rfl (fun z => by kernel_rfl) ?_ rfl rfl rfl
  intro Qo hQo L' s₁ hL' F₁ HC R₁
  obtain ⟨h₁, g₁, d₁, k₁, o₁⟩ := s₁
  have hcl : (callEnvC fd_law_words L' a_law_words).cells = ([("words", L' + 1)] : List (PySem.Str × Addr)) := by kernel_rfl
  rw [hcl] at F₁ HC
  revert F₁
  generalize hmL : bindL _ _ _ = mL
  generalize hcL : bindC _ _ _ = cmL
  intro F₁
  have c3 : mL "live" = some (.str x tx) := by rw [← hmL]; kernel_rfl
  clear hcL hmL
  ktn_no "ast"
  refine wpAny_execs_cons (Assign_Tuple ?_ (by kernel_rfl) (by kernel_rfl))
  ktn_no "z"
  refine make0 (n := n + 40) (R₁.less (by ktn_no "le")) (F₁.toks _) fun sh oa s' P F₂ => ?_
  obtain ⟨h₂, g₂, d₂, k₂, o₂⟩ := s'
  clear F₁
  ktn_no "z"
  refine new_dict F₂ fun dd od h₃ hd F₃ => ?_
  clear F₂
  ktn_no "z"
  refine new_tuple F₃ (by simp) fun T h₄ F₄ => ?_
  clear F₃
  refine assign_Tuple_tuple R₁.handled (tupO_is (F₄.at 0 rfl)) rfl rfl fun h₅ he => ?_
  have F₅ := F₄.keepAll (d := d₂) (tk := k₂) (os := o₂) (ext_keep he)
  clear F₄
  refine assignInOrder_cons (wpAny_assign_Name (st_L F₅ (by kernel_rfl) (by kernel_rfl!) (by kernel_rfl) fun h₆ F₆ => ?_))
  refine assignInOrder_cons (wpAny_assign_Name (st_CO F₆ HC (by kernel_rfl) (by kernel_rfl!) (by kernel_rfl) (by kernel_rfl) fun h₇ F₇ => ?_))
  refine assignInOrder_cons (wpAny_assign_Name (st_L F₇ (by kernel_rfl) (by kernel_rfl!) (by kernel_rfl) fun h₈ F₈ => ?_))
  refine assignInOrder_nil ?_
  clear F₅ F₆ F₇
  have c4 : upd cmL "words" (.ref dd) "words" = some (.ref dd) := rfl
  have m3 : upd (upd mL "shelf" (.ref sh)) "seen" (.int 0 k₂) "live" = some (.str x tx) := c3
  have m4 : upd (upd mL "shelf" (.ref sh)) "seen" (.int 0 k₂) "shelf" = some (.ref sh) := rfl
  have m5 : upd (upd mL "shelf" (.ref sh)) "seen" (.int 0 k₂) "seen" = some (.int (0 : Nat) k₂) := rfl
  revert c4 m3 m4 m5 F₈
  generalize upd cmL "words" (.ref dd) = cm₈
  generalize upd (upd mL "shelf" (.ref sh)) "seen" (.int 0 k₂) = m₈
  intro F₈ c4 m3 m4 m5
  replace F₈ := F₈.drop 1
  dsimp only [List.drop] at F₈
  have hb1 := HC "words" (L' + 1) (by simp)
  ktn_no "z"
  refine wFor ?_ (fun x => rfl)
  ktn_no "z"
  obtain ⟨oc, hoc, F₉⟩ := F₈.uncell hb1.1 hb1.2
  refine gen_call (n := n + 30) (A.deeper (callEnvC fd_law_words L' a_law_words)) (R₁.less (by ktn_no "le")) (F₉.toks _) ha fun I own gs s' hst F₁₀ hg => ?_
  obtain ⟨h₁₀, g₁₀, d₁₀, k₁₀, o₁₀⟩ := s'
  refine gen_iter hst F₁₀ ?_
  have F₁₁ := (F₁₀.perm (news' := (L' + 1, oc) :: (own ++ (oa ++ (dd, od) :: rest))) (by ktn_no "perm_tac")).recell hoc rfl
  refine words_loop (n := n + 20) (R₁.less (by ktn_no "le")) HC c4 (units x) ([], [], 0) m₈ own oa od [] gs _ k₂ hst hg F₈.rl.gsize P hd .nil hok F₁₁ m4 m5 fun m' oa' od' kvs' s' F₁₂ hd' hkv => ?_
  obtain ⟨h₁₂, g₁₂, d₁₂, k₁₂, o₁₂⟩ := s'
  clear F₈ F₉ F₁₀ F₁₁
  dsimp only
  ktn_no "z"
  refine list_compC (B := under s rest) (L := L') (m := m') (cm := cm₈) (s₀ := s) (by kernel_rfl) (by rfl) (by kernel_rfl) (by kernel_rfl) (by kernel_rfl) (fun _ => rfl) ?_
  ktn_no "z"
  have F₁₃ := F₁₂.perm (news' := (dd, od') :: (oa' ++ rest)) (by ktn_no "perm_tac")
  clear F₁₂
  have hkl := hkv.len
  refine sorted_dict F₁₃ R₁.handled (i := 0) rfl hd' (by rw [hkl]; exact hl) ?_ fun S h₁₃ k₁₃ ys ky hyp hys F₁₄ => ?_
  · have := (F₁₃.nw _ (.head _)).2.2.2
    rw [beq_eq_false_iff_ne]
    intro e
    rw [e] at this
    exact absurd this (show ¬ szTop ≤ sysModules by decide)
  clear F₁₃
  have hyk : ys.map (·.1) = ks := sorted_eq (hyp.trans (by rw [hkv.keys]; exact hp.symm)) hys hs
  refine iter_list F₁₄ (i := 0) rfl fun I h₁₄ F₁₅ => ?_
  clear F₁₄
  refine ⟨_, F₁₅, fun D C s₃ s₄ _ F₁₆ G => ?_⟩
  have G₁ := G.perm (news' := (I, itO S 0) :: (D, lsO [] 0) :: ((S, lsO (inV ys) ky) :: (dd, od') :: (oa' ++ rest))) (by ktn_no "perm_tac")
  clear G F₁₅ F₁₆
  refine comp_simple (steps_seq I S (inV ys)) (self_seq I S) rfl rfl R₁.handled ?_ (fun j v => ∃ t, v = .str (wVal x ((ys.getD j default).1)) t) rfl G₁ (fun m l k s o F => ⟨_, _, F.at 2 rfl, rfl⟩) (fun j v m0 l1 k0 o0 s0 K hj hv G₂ q => ?_) (fun m₅ ls kd s' hl' hv G₃ => ?_)
  · have := congrArg List.length hyk
    have h2 := hp.length_eq
    simp at this h2 ⊢
    (first | lia | omega)
  · obtain ⟨h, g, d, tk, os⟩ := s0
    have hlt : j < ys.length := by simpa using hj
    have hv' : v = .int ys[j].1 ys[j].2 := by
      simp only [inV, List.getElem?_map, List.getElem?_eq_getElem hlt] at hv
      exact (Option.some.inj hv).symm
    have hin : ys[j].1 ∈ (wEnd x).map (·.1) := by
      have : ys[j].1 ∈ ks := by rw [← hyk]; exact List.mem_map_of_mem (List.getElem_mem hlt)
      exact hp.mem_iff.mp this
    obtain ⟨tv, hval⟩ := dict_at hd' hkv hin
    subst hv'
    refine wpAny_pure (wpAny_assign_Name ?_)
    refine st_L G₂ (by kernel_rfl) (by kernel_rfl!) (by kernel_rfl) fun h₆ G₃ => ?_
    clear G₁ G₂
    ktn_no "z"
    refine dict_item (G₃.nw (dd, od') (by simp)).1 hd' hval ?_
    exact q _ _ _ ⟨tv, by rw [List.getD_eq_getElem?_getD, List.getElem?_eq_getElem hlt]; rfl⟩ (G₃.toks _)
  · refine ⟨_, _, _, _, G₃, fun s'' F₂₀ => ?_⟩
    obtain ⟨wl, rfl, hwl⟩ := strs_of ls _ hv
    have F₂₁ := F₂₀.sub (news' := (D, lsO (strValues wl) kd) :: rest) ((((List.sublist_append_right oa' rest).cons _).cons _).cons₂ _)
    refine hQo _ _ <| Back.of F₂₁ fun G => h _ _ _ _ ?_ G
    rw [hwl, hl', ← hyk, List.map_map, show (inV ys).length = ys.length by simp]
    exact range_map_getD ys fun y => wVal x y.1
end
section
open Builtin Builtin.Str
noncomputable def sizesV (mx : Int) (ws : List PySem.Str) : List Int := (Txt.split (Txt.join nlS (rowStrs mx ws)) nlS).map fun r => (r.length : Int)
noncomputable abbrev lsFor : Stmt := body_law_sizes.getD 1 default
noncomputable abbrev lsT : Expr := (forParts lsFor).1
noncomputable abbrev lsB : List Stmt := (forParts lsFor).2.2.1
theorem e46 : (Str.ofString "." : PySem.Str) = ⟨#[46]⟩ := by decide
theorem rows_free {mx : Int} {ws : List PySem.Str} (h : ∀ v ∈ ws, 10 ∉ v.cps.toList) : Txt.split (Txt.join nlS (rowStrs mx ws)) nlS = rowStrs mx ws := by
  rw [rowStrs_eq, show nlS = ⟨#[10]⟩ by decide, show Txt.join ⟨#[10]⟩ ((rowsG mx ws).map cat) = Str.join ⟨#[10]⟩ ((rowsG mx ws).map cat) from StrLaws.glued_eq_join _ _]
  refine split_of_join (by unfold rowsG; simp) fun a ha => ?_
  obtain ⟨row, hr, rfl⟩ := List.mem_map.mp ha
  rw [cat_list]
  intro q
  obtain ⟨v, hv, hc⟩ := List.mem_flatMap.mp q
  exact h v (by rw [← rowsG_flat mx ws]; exact List.mem_flatten.mpr ⟨row, hr, hv⟩) hc
section
variable {w : World} {B : Heap} {L I : Addr} {m : PySem.Str → Option Value} {cl : List (PySem.Str × Addr)} {cm : PySem.Str → Option Value} {own rest : List (Addr × Obj)} {s₀ s : Shared} {A : Around} {n : Nat} {x y : Addr} {mx : Int} {us : List (PySem.Str × Tok)} {ky : Nat}
theorem sizes_words {Q : Flow → Shared → Prop} (R : Room (n + 50) A) (hus : ∀ z ∈ us, Word 46 (e0, z.1)) (hul : us.length ≤ 50) :
    ∀ (k i : Nat) (m : PySem.Str → Option Value) (own : List (Addr × Obj)) (st : List PySem.Str × List (PySem.Str × PySem.Str)) (o : Obj) (s : Shared),
      i + k = us.length → o = itO y i → VfP x mx ⟨#[46]⟩ st.1 st.2 own → (∀ z ∈ st.2, Word 46 z) → st.1.length ≤ i → st.2.length ≤ i →
      Fm w B L [] s₀ m cm ((I, o) :: (own ++ (y, lsO (strValues us) ky) :: rest)) s → m "folder" = some (.ref x) →
      (∀ m' own' s', m' "folder" = some (.ref x) → VfP x mx ⟨#[46]⟩ ((us.drop i).foldl (fun st v => chunk mx st v.1) st).1 ((us.drop i).foldl (fun st v => chunk mx st v.1) st).2 own' → Fm w B L [] s₀ m' cm (own' ++ (y, lsO (strValues us) ky) :: rest) s' → Q .next s') →
      LoopC w A lsT (.ref I) lsB [] (callEnv fd_law_sizes L a_law_sizes) Q s
  | 0, i, m, own, st, o, s, hi, ho, P, hw, h1, h2, F, hf, hq => by
    refine loop_step ?_
    have S := steps_seq (w := w) I y (strValues us)
    have hsd := (F.nw (y, lsO (strValues us) ky) (by simp)).1
    obtain ⟨h, g, dd, tk, os⟩ := s
    refine F.endI S R.handled (by simp [strValues]; (first | lia | omega)) ho ⟨_, _, hsd, rfl⟩ fun h' tk' F' => ?_
    dsimp only
    refine wpAny_execs_nil (hq m own _ hf ?_ F')
    rw [List.drop_eq_nil_of_le (by ktn_no "om")]
    exact P
  | k + 1, i, m, own, st, o, s, hi, ho, P, hw, h1, h2, F, hf, hq => by
    refine loop_step ?_
    have S := steps_seq (w := w) I y (strValues us)
    have hsd := (F.nw (y, lsO (strValues us) ky) (by simp)).1
    obtain ⟨h, g, dd, tk, os⟩ := s
    refine F.nextI (d := dd) S (by simp [strValues]; (first | lia | omega)) ho ⟨_, _, hsd, rfl⟩ fun v h₁ k₁ o₁ hv ho₁ F₁ => ?_
    have hlt : i < us.length := by (first | lia | omega)
    have e : us.drop i = us[i] :: us.drop (i + 1) := List.drop_eq_getElem_cons hlt
    have hv' : v = .str us[i].1 us[i].2 := by
      simp only [strValues, List.getElem?_map, List.getElem?_eq_getElem hlt] at hv
      exact (Option.some.inj hv).symm
    subst hv'
    clear hv hsd F
    dsimp only
    refine wpAny_pure (wpAny_assign_Name ?_)
    refine st_L F₁ (by kernel_rfl) (by kernel_rfl!) (by kernel_rfl) fun h₂ F₂ => ?_
    clear F₁
    have F₃ := F₂.perm (news' := own ++ ((I, o₁) :: (y, lsO (strValues us) ky) :: rest)) (by ktn_no "perm_tac")
    have P' := P
    obtain ⟨dv, kd, es, u1, u2, u3, u4, ll, ac, l, nl, oa, rfl, hE, hl1, hP⟩ := P
    clear F₂
    have hm1 : upd m "word" (.str us[i].1 us[i].2) "folder" = some (.ref x) := hf
    ktn_no "ast"
    ktn_no "y"
    refine vf_method F₃.K (F₃.at 0 rfl) (F₃.at 1 rfl) hE (by ktn_no "k_ev") (by ktn_no "k_ev") (by kernel_rfl) ?_
    ktn_no "y"
    refine append_chunk_spec (n := n) (R.less (by ktn_no "le")) (F₃.toks _) P' (by decide) (by decide +kernel) hw (hus _ (List.getElem_mem hlt)) (by ktn_no "om") (by ktn_no "om") fun own' s' P₄ F₄ => ?_
    obtain ⟨h₄, g₄, d₄, k₄, o₄⟩ := s'
    clear F₃ hE
    ktn_no "y"
    have hc := chunk_le mx st us[i].1
    have hw' := chunk_word mx st us[i].1 hw (hus _ (List.getElem_mem hlt))
    refine sizes_words R hus hul k (i + 1) _ own' (chunk mx st us[i].1) o₁ _ (by ktn_no "om") ho₁ P₄ hw' (by ktn_no "om") (by ktn_no "om") (F₄.perm (by ktn_no "perm_tac")) hm1 fun m' own'' s'' hm' P₅ F₅ => ?_
    refine hq m' own'' s'' hm' ?_ F₅
    rw [e, List.foldl_cons]
    exact P₅
theorem sizes_spec {E : Value → Shared → Prop} {Q : Value → Shared → Prop} {wl : Addr} {nw : Nat} {tw : Tok} (R : Room (n + 61) A) (F : Fm w B L cl s₀ m cm ((wl, lsO (strValues us) nw) :: rest) s) (hus : ∀ z ∈ us, Word 46 (e0, z.1)) (hu1 : ∀ z ∈ us, z.1.length ≤ 100) (hnl : ∀ z ∈ us, 10 ∉ z.1.cps.toList) (hul : us.length ≤ 20) (hne : us ≠ [])
    (h : ∀ D ys k s', ys.map (·.1) = sizesV mx (us.map (·.1)) → Fm w B L cl s₀ m cm ((D, lsO (inV ys) k) :: rest) s' → Q (.ref D) s') :
    wpAny (M w) A (call (.ref a_law_sizes) [.ref wl, .int mx tw] []) Q E s := by
  refine call_fn (n := n + 60) (binds := [("words", .ref wl), ("width", .int mx tw)]) (fd := fd_law_sizes) (cmF := fun _ => none) R F (lk_law_sizes _) (cd_law_sizes _) rfl (BindsTo.of_eq rfl) (by decide) (by kernel_rfl) (fun _ _ e => (by cases e)) (fun _ _ _ e => (by cases e)) ?_ rfl rfl rfl
  intro Qo hQo L' s₁ hL F₁ R₁
  obtain ⟨h₁, g₁, d₁, k₁, o₁⟩ := s₁
  ktn_no "ast"
  ktn_no "y"
  refine vf_make (n := n) (R₁.less (by ktn_no "le")) (F₁.toks _) fun x own s' P F₃ => ?_
  rw [e46] at P
  obtain ⟨h₃, g₃, d₃, k₃, o₃⟩ := s'
  clear F₁
  ktn_no "y"
  rename_i h₄ F₄
  clear F₃
  refine wFor ?_ (fun x => rfl)
  ktn_no "y"
  have F₅ := F₄.perm (news' := (wl, lsO (strValues us) nw) :: (own ++ rest)) (by ktn_no "perm_tac")
  clear F₄
  refine iter_list F₅ (i := 0) rfl fun I h₇ F₇ => ?_
  clear F₅
  refine sizes_words (n := n) (cm := fun _ => none) (us := us) (x := x) (y := wl) (mx := mx) (ky := nw) (rest := rest) (R₁.less (by ktn_no "le")) hus (by ktn_no "om") us.length 0 _ own ([], []) _ _ (by ktn_no "om") rfl P (fun z hz => by simp at hz) (Nat.le_refl _) (Nat.le_refl _) (F₇.perm (by ktn_no "perm_tac")) (by ktn_no "k_val") fun m' own' s' hm' P₈ F₈ => ?_
  obtain ⟨h₈, g₈, d₈, k₈, o₈⟩ := s'
  clear F₇ P
  dsimp only
  ktn_no "y"
  refine list_comp (B := under s ((wl, lsO (strValues us) nw) :: rest)) (L := L') (m := m') (cl := []) (cm := fun _ => none) (s₀ := s) (cl' := []) (by kernel_rfl) (by kernel_rfl) (by kernel_rfl) (by kernel_rfl) (fun _ => rfl) (fun _ _ e => e) ?_
  have P' := P₈
  obtain ⟨dv, kd, es, u1, u2, u3, u4, ll, ac, l0, nl, oa, rfl, hE, hl1, hP⟩ := P₈
  ktn_no "y"
  refine vf_method F₈.K (F₈.at 0 rfl) (F₈.at 1 rfl) hE (by ktn_no "k_ev") (by ktn_no "k_ev") (by kernel_rfl) ?_
  ktn_no "y"
  have ef : (us.drop 0).foldl (fun st v => chunk mx st v.1) ([], []) = (us.map (·.1)).foldl (fun st v => chunk mx st v) ([], []) := by rw [List.drop_zero, List.foldl_map]
  rw [ef] at P' hl1 hP
  obtain ⟨f1, f2, f3, f4⟩ := fold_facts mx (us.map (·.1)) ([], []) (fun z hz => by simp at hz) fun y hy => by
    obtain ⟨z, hz, rfl⟩ := List.mem_map.mp hy
    exact hus z hz
  have hj := joinOk_rows (mx := mx) (ws := us.map (·.1)) (by simp; (first | lia | omega)) fun y hy => by
    obtain ⟨z, hz, rfl⟩ := List.mem_map.mp hy
    exact hu1 z hz
  simp only [List.length_map, List.length_nil, Nat.zero_add] at f2 f3
  refine vfstr_spec (n := n) (c := 46) (R₁.less (by ktn_no "le")) (F₈.toks _) P' (by decide +kernel) (f4 (.inl (by simpa using hne))) f1 (by ktn_no "om") (by ktn_no "om") hj.1 fun t₁ own2 s' P₁₁ F₁₁ => ?_
  obtain ⟨h₁₁, g₁₁, d₁₁, k₁₁, o₁₁⟩ := s'
  clear F₈
  ktn_no "y"
  refine GM.split ?_
  ktn_no "y"
  refine str_split (by decide) (Nat.le_trans hj.2 (by decide)) fun lp k₁₂ hlp => ?_
  have hlp : lp.map (·.1) = Txt.split (Txt.join nlS (rowStrs mx (us.map (·.1)))) nlS := hlp
  have F₁₂ := F₁₁.push1 (g := g₁₁) (d := d₁₁) (tk := k₁₂) (lsO (strValues lp) 0)
  refine iter_list F₁₂ (i := 0) rfl fun I₃ h₁₃ F₁₃ => ?_
  clear F₁₁ F₁₂
  have hlen : ∀ y ∈ lp, y.1.length ≤ 90000 := fun y hy => by
    have hm : y.1 ∈ lp.map (·.1) := List.mem_map_of_mem hy
    rw [hlp, rows_free fun v hv => by obtain ⟨z, hz, rfl⟩ := List.mem_map.mp hv; exact hnl z hz] at hm
    refine row_le (N := 90000) ?_ _ hm
    have := sum_le (us.map (·.1)) (N := 100) fun v hv => by obtain ⟨z, hz, rfl⟩ := List.mem_map.mp hv; exact hu1 z hz
    rw [List.length_map] at this
    (first | lia | omega)
  refine ⟨_, F₁₃, fun D C s₃ s₄ _ F₁₄ G => ?_⟩
  have G₁ := G.perm (news' := (I₃, itO h₁₁.objs.size 0) :: (D, lsO [] 0) :: (h₁₁.objs.size, lsO (strValues lp) 0) :: (own2 ++ (wl, lsO (strValues us) nw) :: rest)) (by ktn_no "perm_tac")
  refine comp_simple (steps_seq I₃ h₁₁.objs.size (strValues lp)) (self_seq I₃ h₁₁.objs.size) rfl rfl R₁.handled ?_ (fun j v => ∃ t, v = .int (((lp.getD j default).1.length : Nat) : Int) t) rfl G₁ (fun m l k s o F => ⟨_, _, F.at 2 rfl, rfl⟩) (fun j v m0 l1 k0 o0 s0 K hj hv G₂ q => ?_) (fun m₅ ls kd s' hl hv G₃ => ?_)
  · have := parts_le (Txt.join nlS (rowStrs mx (us.map (·.1)))) nlS
    have hlen := congrArg List.length hlp
    simp only [List.length_map] at hlen
    have := hj.2
    simp only [strValues, List.length_map]
    (first | lia | omega)
  · obtain ⟨h, g, d, tk, os⟩ := s0
    have hlt : j < lp.length := by simpa [strValues] using hj
    have hv' : v = .str lp[j].1 lp[j].2 := by
      simp only [strValues, List.getElem?_map, List.getElem?_eq_getElem hlt] at hv
      exact (Option.some.inj hv).symm
    subst hv'
    have hll := hlen _ (List.getElem_mem hlt)
    refine wpAny_pure (wpAny_assign_Name ?_)
    refine st_L G₂ (by kernel_rfl) (by kernel_rfl!) (by kernel_rfl) fun h₂ G₃ => ?_
    clear G G₁ G₂ F₁₃ F₁₄
    ktn_no "y"
    refine SBL.len (by ktn_no "om") ?_
    exact q _ _ _ ⟨_, by rw [List.getD_eq_getElem?_getD, List.getElem?_eq_getElem hlt]; rfl⟩ (G₃.toks _)
  · refine ⟨_, _, _, _, G₃, fun s'' F₂₀ => ?_⟩
    obtain ⟨yl, rfl, hy⟩ := ints_of ls _ hv
    have F₂₁ := F₂₀.sub (news' := (D, lsO (inV yl) kd) :: rest) (((((List.sublist_cons_self _ rest).trans (List.sublist_append_right own2 _))).cons _).cons₂ _)
    refine hQo _ _ <| Back.of F₂₁ fun G => h _ _ _ _ ?_ G
    rw [hy, hl]
    unfold sizesV
    rw [← hlp, List.map_map, show (strValues lp).length = lp.length by simp [strValues]]
    exact range_map_getD lp fun z => ((z.1.length : Nat) : Int)
end

end
section
variable {w : World} {B : Heap} {L : Addr} {m cm : PySem.Str → Option Value} {rest : List (Addr × Obj)} {s₀ s : Shared} {A : Around} {n : Nat} {Q : Flow → Shared → Prop}
theorem law_2 {N : Addr} {ns : List (Int × Tok)} {k : Nat} (R : Room (n + 70) A) (F : Fm w B L (envLaw L).cells s₀ m cm rest s) (hN : (N, lsO (inV ns) k) ∈ rest) (m1 : m "numbers" = some (.ref N))
    (h : ∀ (j : Nat) t s', j ≤ 2 → Fm w B L (envLaw L).cells s₀ (upd m "last" (.int (4 + j : Nat) t)) cm rest s' → Q .next s') :
    wpAny (M w) A (exec (lawSt 2) (envLaw L)) Q NoE s := by
  obtain ⟨h₁, g₁, d₁, k₁, o₁⟩ := s
  ktn_no "ast"
  ktn_no "z"
  refine sum_ints F R.handled (isL (F.nw _ hN).1) fun t h₂ k₂ F₂ => ?_
  clear F
  ktn_no "z"
  refine mod_int (by decide) ?_
  have e3 : ∃ j : Nat, j ≤ 2 ∧ (List.map (fun p : Int × Tok => p.1) ns).sum.fmod 3 = (j : Int) := by
    rw [Int.fmod_eq_emod_of_nonneg _ (by decide)]
    exact ⟨((List.map (fun p : Int × Tok => p.1) ns).sum % 3).toNat, by (first | lia | omega), by (first | lia | omega)⟩
  obtain ⟨j, hj, e3⟩ := e3
  rw [e3]
  ktn_no "z"
  rename_i h₃ F₃
  exact h j _ _ hj F₃
theorem law_3 {N : Addr} {ns : List (Int × Tok)} {k last : Nat} {tl : Tok} (R : Room (n + 70) A) (F : Fm w B L (envLaw L).cells s₀ m cm rest s) (hN : (N, lsO (inV ns) k) ∈ rest) (hlen : ns.length = 7) (hns : ∀ c ∈ ns, 0 ≤ c.1) (hl : last ≤ 6) (m1 : m "numbers" = some (.ref N)) (m2 : m "last" = some (.int (last : Nat) tl))
    (h : ∀ la vs l k t s', PrsIn (prI ((drawT (ns.map (·.1.toNat)) 8 0 last).parts 0)) vs l → Fm w B L (envLaw L).cells s₀ (upd (upd m "text" (.str (txS (drawT (ns.map (·.1.toNat)) 8 0 last)) t)) "parts" (.ref la)) cm ((la, lsO vs k) :: (l ++ rest)) s' → Q .next s') :
    wpAny (M w) A (exec (lawSt 3) (envLaw L)) Q NoE s := by
  obtain ⟨h₁, g₁, d₁, k₁, o₁⟩ := s
  ktn_no "ast"
  refine Assign_Tuple ?_ (by kernel_rfl) (by kernel_rfl)
  ktn_no "z"
  refine drawn_spec (lo := 0) (n := n) 8 (R.less (by ktn_no "le")) (F.toks _) (by ktn_no "om") (by ktn_no "om") hl hN hlen hns fun T la vs l k t s' hP F₃ => ?_
  obtain ⟨h₃, g₃, d₃, k₃, o₃⟩ := s'
  clear F
  refine assign_pair F₃ R.handled (F₃.at 0 rfl) (by kernel_rfl) (by kernel_rfl) (by kernel_rfl) (by kernel_rfl) fun h₄ k₄ F₄ => ?_
  exact h _ _ _ _ _ _ hP (F₄.drop 1)
theorem txS_cut (l r : Tr) : Txt.slice (txS (.node l r)) none (some (-1)) = ⟨(open2 false l r).toArray⟩ := by
  have hl : (txS (.node l r)).cps.toList = open2 false l r ++ [41] := by simp [txS, Tr.tx, open2]
  have h1 : (txS (.node l r)).length = (open2 false l r).length + 1 := by
    show (txS (.node l r)).cps.size = _
    rw [← Array.length_toList, hl]; simp
  have := beq_iff_eq.mp (slice_closes_to_neg (x := txS (.node l r)) (j := -1) (k := (open2 false l r).length) (by decide) (by ktn_no "om") (by ktn_no "om"))
  rw [this, hl]
  simp
theorem txS_cut2 (l r : Tr) (k : Tok) : (if ((Option.map (fun x : Int × Tok => x.1) none).getD 1 == 1 && (slicePicked (txS (.node l r)) none (some (-1, k)) none).length == (txS (.node l r)).length) = true then txS (.node l r)
    else ⟨(List.filterMap (fun x => (txS (.node l r)).cps[x]?) (slicePicked (txS (.node l r)) none (some (-1, k)) none)).toArray⟩) = ⟨(open2 false l r).toArray⟩ := txS_cut l r
theorem stripOk_tr (t : Tr) (h : t.size ≤ 7) : StripOk (txS t) :=
  stripOk_len (all_asc (tx_asc false t)) (Nat.le_trans (txS_len t) (by ktn_no "om"))
theorem open_in {b : Bool} {l r : Tr} : ∀ c ∈ open2 b l r, c ∈ Tr.tx b (.node l r) := fun c h => by
  unfold open2 at h
  show c ∈ 40 :: (l.tx b ++ (r.tx b ++ [41]))
  rw [List.mem_cons, List.mem_append] at h ⊢
  rw [List.mem_append]
  rcases h with h | h | h
  · exact .inl h
  · exact .inr (.inl h)
  · exact .inr (.inr (.inl h))
theorem stripOk_open (l r : Tr) (h : Tr.size (.node l r) ≤ 7) : StripOk ⟨(open2 false l r).toArray⟩ := by
  refine stripOk_len (all_asc fun c hc => tx_asc false _ c (open_in c hc)) ?_
  have := tx_len false (.node l r)
  have e : (Tr.tx false (.node l r)).length = (open2 false l r).length + 1 := by simp [Tr.tx, open2]; (first | lia | omega)
  show (open2 false l r).toArray.size ≤ 500
  simp
  (first | lia | omega)
theorem law_4 {l r : Tr} {t : Tok} (R : Room (n + 70) A) (F : Fm w B L (envLaw L).cells s₀ m cm rest s) (hz : Tr.size (.node l r) ≤ 7) (m1 : m "text" = some (.str (txS (.node l r)) t))
    (h : ∀ s', Fm w B L (envLaw L).cells s₀ m cm rest s' → Q .next s') :
    wpAny (M w) A (exec (lawSt 4) (envLaw L)) Q NoE s := by
  obtain ⟨h₁, g₁, d₁, k₁, o₁⟩ := s
  ktn_no "ast"
  ktn_no "z"
  refine check_spec (n := n) (R.less (by ktn_no "le")) (F.toks _) (stripOk_tr _ hz) (by rw [show txS (.node l r) = ⟨(Tr.tx false (.node l r)).toArray⟩ from rfl, strip_tr]; exact all_asc (tx_asc true _)) fun s' F₂ => ?_
  rw [show checkF (txS (.node l r)) = true from checkF_tr _]
  obtain ⟨h₂, g₂, d₂, k₂, o₂⟩ := s'
  clear F
  ktn_no "z"
  refine wpAny_isNot_self rfl ?_
  refine wpAny_truthy_bool ?_
  rw [if_neg Bool.false_ne_true]
  ktn_no "x"
  refine wpAny_Subscript_str_slice ?_ (fun _ _ => rfl)
  ktn_no "z"
  refine evalPart_none_step ?_
  refine evalPart_some_step ?_
  ktn_no "z"
  have hlen := txS_len (.node l r)
  refine ⟨txS (.node l r), t, none, some (-1, _), rfl, rfl, rfl, post_val_or_str ⟨Nat.le_trans (Txt.slice_le _ none (some (-1))) (Nat.le_trans (show _ ≤ 1000 by (first | lia | omega)) (by decide)), fun t' k' => ?_⟩⟩
  dsimp only
  have F₃ := (F₂.push1 (g := g₂) (d := d₂) (tk := k') (slO .none (.int (-1) (k₂ + 1)) .none)).drop 1
  dsimp only [List.drop] at F₃
  clear F₂
  rw [txS_cut2 l r (k₂ + 1)]
  ktn_no "z"
  refine check_spec (n := n) (R.less (by ktn_no "le")) (F₃.toks _) (stripOk_open l r hz) (by rw [strip_open]; exact all_asc fun c hc => tx_asc true _ c (open_in c hc)) fun s' F₄ => ?_
  rw [checkF_open]
  obtain ⟨h₄, g₄, d₄, k₄, o₄⟩ := s'
  clear F₃
  ktn_no "z"
  refine wpAny_isNot_self rfl ?_
  refine wpAny_truthy_bool ?_
  rw [if_neg Bool.false_ne_true]
  ktn_no "z"
  rw [if_neg Bool.false_ne_true]
  ktn_no "z"
  exact h _ F₄
theorem law_5 {tr : Tr} {t : Tok} {ks : List Int} (R : Room (n + 70) A) (F : Fm w B L (envLaw L).cells s₀ m cm rest s) (hz : tr.size ≤ 7) (m1 : m "text" = some (.str (txS tr) t))
    (hok : WOk (units ⟨(tr.tx true).toArray⟩) ([], [], 0)) (hl : (wEnd ⟨(tr.tx true).toArray⟩).length < 64) (hp : ks.Perm ((wEnd ⟨(tr.tx true).toArray⟩).map (·.1))) (hs : ks.Pairwise (· ≤ ·))
    (h : ∀ W ws k s', ws.map (·.1) = ks.map (wVal ⟨(tr.tx true).toArray⟩) → Fm w B L (envLaw L).cells s₀ (upd m "words" (.ref W)) cm ((W, lsO (strValues ws) k) :: rest) s' → Q .next s') :
    wpAny (M w) A (exec (lawSt 5) (envLaw L)) Q NoE s := by
  obtain ⟨h₁, g₁, d₁, k₁, o₁⟩ := s
  ktn_no "ast"
  ktn_no "z"
  refine strip_spec (n := n) (R.less (by ktn_no "le")) (F.toks _) (stripOk_tr _ hz) fun t₂ s' F₂ => ?_
  rw [show stripF (txS tr) = ⟨(tr.tx true).toArray⟩ from strip_tr tr]
  obtain ⟨h₂, g₂, d₂, k₂, o₂⟩ := s'
  clear F
  ktn_no "z"
  refine words_spec (n := n) (R.less (by ktn_no "le")) (F₂.toks _) (all_asc (tx_asc true _)) hok hl hp hs fun W ws k s' hw F₃ => ?_
  obtain ⟨h₃, g₃, d₃, k₃, o₃⟩ := s'
  clear F₂
  ktn_no "z"
  rename_i h₄ F₄
  exact h W ws k _ hw F₄
theorem law_6 {W : Addr} {ws : List (PySem.Str × Tok)} {k last : Nat} {tl : Tok} (R : Room (n + 70) A) (F : Fm w B L (envLaw L).cells s₀ m cm rest s) (hW : (W, lsO (strValues ws) k) ∈ rest) (hl : ws.length = last) (h6 : last ≤ 6) (m1 : m "words" = some (.ref W)) (m2 : m "last" = some (.int (last : Nat) tl))
    (h : ∀ s', Fm w B L (envLaw L).cells s₀ m cm rest s' → Q .next s') :
    wpAny (M w) A (exec (lawSt 6) (envLaw L)) Q NoE s := by
  obtain ⟨h₁, g₁, d₁, k₁, o₁⟩ := s
  have hw := (F.nw _ hW).1
  ktn_no "ast"
  ktn_no "z"
  refine PyProof.Rows.len_list (isL hw) (by simp [strValues]; (first | lia | omega)) ?_
  ktn_no "z"
  rw [if_neg (by simp [strValues, hl])]
  ktn_no "z"
  exact h _ (F.toks _)
end
theorem eqv_pair (y z : Int × Int) : PyData.eqv (pairD y) (pairD z) = decide (y = z) := by
  obtain ⟨a, b⟩ := y
  obtain ⟨c, d⟩ := z
  simp only [pairD, PyData.eqv, PyData.eqvAll, Bool.and_true, Prod.mk.injEq]
  rw [Bool.eq_iff_iff]
  simp
theorem any_pair (z : Int × Int) (ps : List (Int × Int)) : ((ps.map pairD).any fun y => PyData.eqv y (pairD z)) = decide (z ∈ ps) := by
  rw [List.any_map, Bool.eq_iff_iff, List.any_eq_true, decide_eq_true_eq]
  constructor
  · rintro ⟨y, hy, e⟩
    have e : PyData.eqv (pairD y) (pairD z) = true := e
    rw [eqv_pair, decide_eq_true_eq] at e
    exact e ▸ hy
  · intro h
    exact ⟨z, h, by show PyData.eqv (pairD z) (pairD z) = true; rw [eqv_pair]; exact decide_eq_true rfl⟩
noncomputable abbrev l7 : Stmt := lawSt 7
noncomputable abbrev l7T : Expr := (forParts l7).1
noncomputable abbrev l7B : List Stmt := (forParts l7).2.2.1
noncomputable abbrev l72 : Stmt := l7B.getD 0 default
noncomputable abbrev l72T : Expr := (forParts l72).1
noncomputable abbrev l72B : List Stmt := (forParts l72).2.2.1
section
variable {w : World} {B : Heap} {L I : Addr} {m cm : PySem.Str → Option Value} {cl : List (PySem.Str × Addr)} {rest : List (Addr × Obj)} {s₀ s : Shared} {A : Around} {n : Nat}
theorem in_pairs {la T : Addr} {ps : List (Int × Int)} {vs : List Value} {k : Nat} {l : List (Addr × Obj)} {a b : Int} {t u : Tok} {Q : Value → Shared → Prop} {E : Value → Shared → Prop} (R : Room (n + 1) A)
    (hl : s.heap.get? la = some (lsO vs k)) (hs : ∀ p ∈ l, s.heap.get? p.1 = some p.2) (hP : PrsIn ps vs l) (hT : s.heap.get? T = some (tupO [.int a t, .int b u])) (q : Q (.bool (decide ((a, b) ∈ ps))) s) :
    wpAny (M w) A (compareOp .In (.ref T) (.ref la)) Q E s := by
  have r1 : Reads s.heap (.ref la) (.list (ps.map pairD)) [la] := Reads.list hl rfl rfl (by simpa using reads_pairs hs ps vs hP)
  have h1 : ReadsAll s.heap [.int a t, .int b u] [.int a, .int b] ([] ++ ([] ++ [])) := .cons (.int _ _) (.cons (.int _ _) .nil)
  have r2 : Reads s.heap (.ref T) (pairD (a, b)) ([] ++ ([] ++ [])) := Reads.tuple hT rfl rfl h1
  refine SeqAt.in_list_reads r1 r2 (pairs_lay ps).1 (by simp [pairD, PyData.canLay0, PyData.canLayAll0]) ?_ (by rw [any_pair]; exact q)
  have h2 := (pairs_lay ps).2
  have := R.units
  show A.units + 1 + min _ _ < 9900
  (first | lia | omega)
noncomputable def segS (ws : List PySem.Str) (i j : Nat) : List PySem.Str := (ws.drop i).take (j - i)
noncomputable def widN (d : Nat) : Nat := d * (d + 1) / 2
theorem bits_small : ∀ d : Nat, d ≤ 20 → Builtin.Int.intBits (d : Int) ≤ 64 := by decide
theorem inner_go {Q : Flow → Shared → Prop} {Wa la : Addr} {ws : List (PySem.Str × Tok)} {kw kl last i : Nat} {vs : List Value} {l : List (Addr × Obj)} {ps : List (Int × Int)} {tl ti : Tok} (R : Room (n + 70) A)
    (hW : (Wa, lsO (strValues ws) kw) ∈ rest) (hla : (la, lsO vs kl) ∈ rest) (hls : ∀ p ∈ l, p ∈ rest) (hP : PrsIn ps vs l) (hwl : ws.length = last) (h6 : last ≤ 6) (hi : i < last)
    (hus : ∀ z ∈ ws, Word 46 (e0, z.1)) (hu1 : ∀ z ∈ ws, z.1.length ≤ 100) (hnl : ∀ z ∈ ws, 10 ∉ z.1.cps.toList)
    (hfit : ∀ j, i < j → j ≤ last → ((((i : Nat) : Int), ((j : Nat) : Int)) ∈ ps → sizesV (widN (j - i) : Nat) (segS (ws.map (·.1)) i j) = [((widN (j - i) : Nat) : Int)]) ∧ ((((i : Nat) : Int), ((j : Nat) : Int)) ∉ ps → ∀ x, sizesV (widN (j - i) : Nat) (segS (ws.map (·.1)) i j) = [x] → ((widN (j - i) : Nat) : Int) < x)) :
    ∀ (k j : Nat) (m : PySem.Str → Option Value) (o : Obj) (s : Shared), j + k = last - i → ObR ((i + 1 : Nat) : Int) (last - i) j o → Fm w B L (envLaw L).cells s₀ m cm ((I, o) :: rest) s →
      m "words" = some (.ref Wa) → m "parts" = some (.ref la) → m "last" = some (.int (last : Nat) tl) → m "start" = some (.int (i : Nat) ti) →
      (∀ m' s', m' "words" = some (.ref Wa) → m' "parts" = some (.ref la) → m' "last" = some (.int (last : Nat) tl) → Fm w B L (envLaw L).cells s₀ m' cm rest s' → Q .next s') →
      LoopC w A l72T (.ref I) l72B [] (envLaw L) Q s
  | 0, j, m, o, s, hj, ho, F, m1, m2, m3, m4, hq => by
    refine loop_step ?_
    have S := steps_range (w := w) I ((i + 1 : Nat) : Int) 1 (last - i)
    obtain ⟨h, g, dd, tk, os⟩ := s
    refine F.endI S R.handled (by ktn_no "om") ho trivial fun h' tk' F' => ?_
    dsimp only
    exact wpAny_execs_nil (hq m _ m1 m2 m3 F')
  | k + 1, j, m, o, s, hj, ho, F, m1, m2, m3, m4, hq => by
    refine loop_step ?_
    have S := steps_range (w := w) I ((i + 1 : Nat) : Int) 1 (last - i)
    obtain ⟨h, g, dd, tk, os⟩ := s
    refine F.nextI (d := dd) S (by ktn_no "om") ho trivial fun v h₁ k₁ o₁ hv ho₁ F₁ => ?_
    obtain ⟨tj, rfl⟩ := hv
    rw [show ((i + 1 : Nat) : Int) + (j : Int) * 1 = ((i + 1 + j : Nat) : Int) by (first | lia | omega)]
    dsimp only
    refine wpAny_pure (wpAny_assign_Name ?_)
    refine st_L F₁ (by kernel_rfl) (by kernel_rfl!) (by kernel_rfl) fun h₂ F₂ => ?_
    clear F F₁
    have n1 : upd m "stop" (.int (i + 1 + j : Nat) tj) "words" = some (.ref Wa) := m1
    have n2 : upd m "stop" (.int (i + 1 + j : Nat) tj) "parts" = some (.ref la) := m2
    have n3 : upd m "stop" (.int (i + 1 + j : Nat) tj) "last" = some (.int (last : Nat) tl) := m3
    have n4 : upd m "stop" (.int (i + 1 + j : Nat) tj) "start" = some (.int (i : Nat) ti) := m4
    have n5 : upd m "stop" (.int (i + 1 + j : Nat) tj) "stop" = some (.int (i + 1 + j : Nat) tj) := rfl
    revert n1 n2 n3 n4 n5 F₂
    generalize upd m "stop" (.int (i + 1 + j : Nat) tj) = m₂
    intro F₂ n1 n2 n3 n4 n5
    ktn_no "ast"
    ktn_no "z"
    rw [show ((i + 1 + j : Nat) : Int) - (i : Int) = ((j + 1 : Nat) : Int) by (first | lia | omega)]
    rw [show ((j + 1 : Nat) : Int) + 1 = ((j + 1 + 1 : Nat) : Int) from rfl]
    refine mul_int ?_ (IntMulOk.of_left (bits_small _ (by ktn_no "om")))
    ktn_no "z"
    refine fdiv_int (by decide) (no_pylong (b := 2) (by decide)) ?_
    have hw2 : (((j + 1 : Nat) : Int) * ((j + 1 + 1 : Nat) : Int)).fdiv 2 = ((widN (j + 1) : Nat) : Int) := by
      rw [← Int.natCast_mul, Int.fdiv_eq_ediv_of_nonneg _ (by decide)]
      unfold widN
      (first | lia | omega)
    rw [hw2]
    ktn_no "x"
    rename_i h₃ F₃
    clear F₂
    refine list_slice ?_
    ktn_no "z"
    refine evalPart_some_step ?_
    ktn_no "z"
    refine evalPart_some_step ?_
    ktn_no "z"
    obtain ⟨jW, hjW⟩ := List.getElem?_of_mem (show (Wa, lsO (strValues ws) kw) ∈ (I, o₁) :: rest from .tail _ hW)
    refine ⟨_, _, _, _, _, _, _, _, jW, _, _, some ((i : Nat) : Int), some ((i + 1 + j : Nat) : Int), rfl, F₃.toks _, hjW, by simp [strValues]; (first | lia | omega), .int _ _, .int _ _, fun y h₄ ky F₄ => ?_⟩
    rw [slicePick_run _ i (i + 1 + j) (by simp [strValues]; (first | lia | omega)) (by ktn_no "om")] at F₄
    have e0 : (((strValues ws).toArray.toList.drop i).take (i + 1 + j - i)).toArray.toList = strValues ((ws.drop i).take (j + 1)) := by
      rw [show i + 1 + j - i = j + 1 by (first | lia | omega)]
      simp [strValues, List.map_drop, List.map_take]
    rw [e0] at F₄
    clear F₃
    have hsub : ∀ z ∈ (ws.drop i).take (j + 1), z ∈ ws := fun z hz => List.mem_of_mem_drop (List.mem_of_mem_take hz)
    ktn_no "x"
    refine sizes_spec (n := n) (us := (ws.drop i).take (j + 1)) (R.less (by ktn_no "le")) (F₄.toks _) (fun z hz => hus z (hsub z hz)) (fun z hz => hu1 z (hsub z hz)) (fun z hz => hnl z (hsub z hz)) (by simp; (first | lia | omega)) (by intro q; have := congrArg List.length q; simp at this; (first | lia | omega)) fun D ys kd s' hys F₅ => ?_
    obtain ⟨h₅, g₅, d₅, k₅, o₅⟩ := s'
    clear F₄
    have hseg : ((ws.drop i).take (j + 1)).map (·.1) = segS (ws.map (·.1)) i (i + 1 + j) := by
      unfold segS
      rw [show i + 1 + j - i = j + 1 by (first | lia | omega), List.map_take, List.map_drop]
    rw [hseg] at hys
    have hf := hfit (i + 1 + j) (by ktn_no "om") (by ktn_no "om")
    rw [show i + 1 + j - i = j + 1 by (first | lia | omega), ← hys] at hf
    have hyl : ys.length ≤ 100 := by
      have e1 := congrArg List.length hys
      have e2 : (sizesV (widN (j + 1) : Nat) (segS (ws.map (·.1)) i (i + 1 + j))).length ≤ 100 := by
        unfold sizesV
        rw [rows_free fun v hv => by
          obtain ⟨z, hz, rfl⟩ := List.mem_map.mp (List.mem_of_mem_drop (List.mem_of_mem_take hv))
          exact hnl z hz, rowStrs_eq, List.length_map, List.length_map]
        refine Nat.le_trans (rowsG_length _ _) ?_
        unfold segS
        simp
        (first | lia | omega)
      rw [List.length_map] at e1
      (first | lia | omega)
    ktn_no "z"
    rename_i h₆ F₆
    clear F₅
    refine new_tuple F₆ (by simp) fun T h₇ F₇ => ?_
    clear F₆
    ktn_no "z"
    refine in_pairs (n := n) (ps := ps) (R.less (by ktn_no "le")) (F₇.nw (la, lsO vs kl) (.tail _ (.tail _ (.tail _ hla)))).1 (fun p hp => (F₇.nw p (.tail _ (.tail _ (.tail _ (hls p hp))))).1) hP (F₇.at 0 rfl) ?_
    refine wpAny_truthy_bool ?_
    have F₈ := F₇.drop 1
    dsimp only [List.drop] at F₈
    clear F₇
    by_cases hin : (((i : Nat) : Int), ((i + 1 + j : Nat) : Int)) ∈ ps
    · rw [decide_eq_true hin, if_pos rfl]
      ktn_no "z"
      refine new_list (vs := inV [(((widN (j + 1) : Nat) : Int), _)]) F₈ (by simp) fun V h₉ F₉ => ?_
      refine ne_intsK (isL (F₉.at 1 rfl)) (intsAre ys) (isL (F₉.at 0 rfl)) (intsAre _) (by have := R.units; show _ < 9900; (first | lia | omega)) ?_
      rw [hf.1 hin]
      refine wpAny_truthy_bool ?_
      rw [if_neg (by simp)]
      have F₁₀ := (F₉.erase 1).drop 1
      simp only [List.drop, List.eraseIdx] at F₁₀
      clear F₈ F₉
      ktn_no "z"
      exact inner_go R hW hla hls hP hwl h6 hi hus hu1 hnl hfit k (j + 1) _ o₁ _ (by ktn_no "om") ho₁ (F₁₀.toks _) (by ktn_no "k_val") (by ktn_no "k_val") (by ktn_no "k_val") (by ktn_no "k_val") hq
    · rw [decide_eq_false hin, if_neg Bool.false_ne_true]
      ktn_no "z"
      refine PyProof.Rows.len_list (isL (F₈.at 0 rfl)) (by simp; (first | lia | omega)) ?_
      ktn_no "z"
      have F₉ := F₈.drop 1
      dsimp only [List.drop] at F₉
      by_cases hone : ys.length = 1
      · rw [if_pos (by simp [hone])]
        obtain ⟨y0, rfl⟩ : ∃ y0, ys = [y0] := List.length_eq_one_iff.mp hone
        have hlt := hf.2 hin y0.1 rfl
        ktn_no "z"
        refine list_item (k := 0) (F₈.at 0 rfl) (by decide) (show (inV [y0])[0]? = some (.int y0.1 y0.2) from rfl) ?_
        ktn_no "z"
        rw [if_neg (by simpa using hlt)]
        ktn_no "z"
        rw [if_neg Bool.false_ne_true]
        ktn_no "z"
        exact inner_go R hW hla hls hP hwl h6 hi hus hu1 hnl hfit k (j + 1) _ o₁ _ (by ktn_no "om") ho₁ (F₉.toks _) (by ktn_no "k_val") (by ktn_no "k_val") (by ktn_no "k_val") (by ktn_no "k_val") hq
      · rw [if_neg (by simpa using fun e => hone (by ktn_no "om"))]
        ktn_no "z"
        rw [if_neg Bool.false_ne_true]
        ktn_no "z"
        exact inner_go R hW hla hls hP hwl h6 hi hus hu1 hnl hfit k (j + 1) _ o₁ _ (by ktn_no "om") ho₁ (F₉.toks _) (by ktn_no "k_val") (by ktn_no "k_val") (by ktn_no "k_val") (by ktn_no "k_val") hq
theorem outer_go {Q : Flow → Shared → Prop} {Wa la : Addr} {ws : List (PySem.Str × Tok)} {kw kl last : Nat} {vs : List Value} {l : List (Addr × Obj)} {ps : List (Int × Int)} {tl : Tok} (R : Room (n + 70) A)
    (hW : (Wa, lsO (strValues ws) kw) ∈ rest) (hla : (la, lsO vs kl) ∈ rest) (hls : ∀ p ∈ l, p ∈ rest) (hP : PrsIn ps vs l) (hwl : ws.length = last) (h6 : last ≤ 6)
    (hus : ∀ z ∈ ws, Word 46 (e0, z.1)) (hu1 : ∀ z ∈ ws, z.1.length ≤ 100) (hnl : ∀ z ∈ ws, 10 ∉ z.1.cps.toList)
    (hfit : ∀ i j, i < j → j ≤ last → ((((i : Nat) : Int), ((j : Nat) : Int)) ∈ ps → sizesV (widN (j - i) : Nat) (segS (ws.map (·.1)) i j) = [((widN (j - i) : Nat) : Int)]) ∧ ((((i : Nat) : Int), ((j : Nat) : Int)) ∉ ps → ∀ x, sizesV (widN (j - i) : Nat) (segS (ws.map (·.1)) i j) = [x] → ((widN (j - i) : Nat) : Int) < x)) :
    ∀ (k i : Nat) (m : PySem.Str → Option Value) (o : Obj) (s : Shared), i + k = last → ObR 0 last i o → Fm w B L (envLaw L).cells s₀ m cm ((I, o) :: rest) s →
      m "words" = some (.ref Wa) → m "parts" = some (.ref la) → m "last" = some (.int (last : Nat) tl) →
      (∀ m' s', Fm w B L (envLaw L).cells s₀ m' cm rest s' → Q .next s') →
      LoopC w A l7T (.ref I) l7B [] (envLaw L) Q s
  | 0, i, m, o, s, hi, ho, F, m1, m2, m3, hq => by
    refine loop_step ?_
    have S := steps_range (w := w) I 0 1 last
    obtain ⟨h, g, dd, tk, os⟩ := s
    refine F.endI S R.handled (by ktn_no "om") ho trivial fun h' tk' F' => ?_
    dsimp only
    exact wpAny_execs_nil (hq m _ F')
  | k + 1, i, m, o, s, hi, ho, F, m1, m2, m3, hq => by
    refine loop_step ?_
    have S := steps_range (w := w) I 0 1 last
    obtain ⟨h, g, dd, tk, os⟩ := s
    refine F.nextI (d := dd) S (by ktn_no "om") ho trivial fun v h₁ k₁ o₁ hv ho₁ F₁ => ?_
    obtain ⟨ti, rfl⟩ := hv
    rw [show (0 : Int) + (i : Int) * 1 = (i : Int) by (first | lia | omega)]
    dsimp only
    refine wpAny_pure (wpAny_assign_Name ?_)
    refine st_L F₁ (by kernel_rfl) (by kernel_rfl!) (by kernel_rfl) fun h₂ F₂ => ?_
    clear F F₁
    have n1 : upd m "start" (.int i ti) "words" = some (.ref Wa) := m1
    have n2 : upd m "start" (.int i ti) "parts" = some (.ref la) := m2
    have n3 : upd m "start" (.int i ti) "last" = some (.int (last : Nat) tl) := m3
    have n4 : upd m "start" (.int i ti) "start" = some (.int (i : Nat) ti) := rfl
    revert n1 n2 n3 n4 F₂
    generalize upd m "start" (.int i ti) = m₂
    intro F₂ n1 n2 n3 n4
    ktn_no "ast"
    refine wpAny_execs_cons (wFor ?_ (fun x => rfl))
    ktn_no "z"
    rw [show ((i : Nat) : Int) + 1 = ((i + 1 : Nat) : Int) from rfl]
    refine range2 (n := last - i) F₂ (by ktn_no "om") fun r₂ h₇ t₂ u₂ v₂ k₇ G₄ => ?_
    refine iter_range G₄ (by ktn_no "om") fun J oJ h₈ hoJ G₅ => ?_
    clear F₂ G₄
    refine inner_go (rest := (I, o₁) :: rest) R (.tail _ hW) (.tail _ hla) (fun p hp => .tail _ (hls p hp)) hP hwl h6 (by ktn_no "om") hus hu1 hnl (fun j => hfit i j) (last - i) 0 _ oJ _ (by ktn_no "om") hoJ G₅ n1 n2 n3 n4 fun m' s' p1 p2 p3 G₆ => ?_
    obtain ⟨h₉, g₉, d₉, k₉, o₉⟩ := s'
    dsimp only
    ktn_no "z"
    exact outer_go R hW hla hls hP hwl h6 hus hu1 hnl hfit k (i + 1) m' o₁ _ (by ktn_no "om") ho₁ (G₆.toks _) p1 p2 p3 hq
theorem law_7 {Q : Flow → Shared → Prop} {Wa la : Addr} {ws : List (PySem.Str × Tok)} {kw kl last : Nat} {vs : List Value} {l : List (Addr × Obj)} {ps : List (Int × Int)} {tl : Tok} (R : Room (n + 70) A) (F : Fm w B L (envLaw L).cells s₀ m cm rest s)
    (hW : (Wa, lsO (strValues ws) kw) ∈ rest) (hla : (la, lsO vs kl) ∈ rest) (hls : ∀ p ∈ l, p ∈ rest) (hP : PrsIn ps vs l) (hwl : ws.length = last) (h6 : last ≤ 6)
    (hus : ∀ z ∈ ws, Word 46 (e0, z.1)) (hu1 : ∀ z ∈ ws, z.1.length ≤ 100) (hnl : ∀ z ∈ ws, 10 ∉ z.1.cps.toList)
    (hfit : ∀ i j, i < j → j ≤ last → ((((i : Nat) : Int), ((j : Nat) : Int)) ∈ ps → sizesV (widN (j - i) : Nat) (segS (ws.map (·.1)) i j) = [((widN (j - i) : Nat) : Int)]) ∧ ((((i : Nat) : Int), ((j : Nat) : Int)) ∉ ps → ∀ x, sizesV (widN (j - i) : Nat) (segS (ws.map (·.1)) i j) = [x] → ((widN (j - i) : Nat) : Int) < x))
    (m1 : m "words" = some (.ref Wa)) (m2 : m "parts" = some (.ref la)) (m3 : m "last" = some (.int (last : Nat) tl))
    (h : ∀ m' s', Fm w B L (envLaw L).cells s₀ m' cm rest s' → Q .next s') :
    wpAny (M w) A (exec (lawSt 7) (envLaw L)) Q NoE s := by
  obtain ⟨h₁, g₁, d₁, k₁, o₁⟩ := s
  ktn_no "ast"
  refine wFor ?_ (fun x => rfl)
  ktn_no "z"
  refine range1 F fun r h₄ t' u' v' k₄ F₄ => ?_
  refine iter_range F₄ (by ktn_no "om") fun I o h₅ ho F₅ => ?_
  clear F F₄
  exact outer_go R hW hla hls hP hwl h6 hus hu1 hnl hfit last 0 m o _ (by ktn_no "om") ho F₅ m1 m2 m3 h
theorem law_8 {Q : Flow → Shared → Prop} (F : Fm w B L (envLaw L).cells s₀ m cm rest s) (h : ∀ s', Fm w B L (envLaw L).cells s₀ m cm rest s' → Q (.ret (.bool true)) s') : wpAny (M w) A (exec (lawSt 8) (envLaw L)) Q NoE s := by
  obtain ⟨h₁, g₁, d₁, k₁, o₁⟩ := s
  ktn_no "ast"
  ktn_no "z"
  exact h _ (F.toks _)
end
noncomputable def keysN (o n : Nat) : List Int := (List.range' o n).map fun i : Nat => (i : Int)
theorem ent_perm : ∀ (t : Tr) (o : Nat), ((t.ent o).map (·.1)).Perm (keysN (o + 1) (t.size - 1))
  | .leaf _, o => List.Perm.nil
  | .node l r, o => by
    have pl := l.size_pos
    have pr := r.size_pos
    have e : Tr.size (.node l r) - 1 = (l.size - 1) + (1 + (r.size - 1)) := by show l.size + r.size - 1 = _; (first | lia | omega)
    have h1 := ent_perm l o
    have h2 := ent_perm r (o + l.size)
    rw [e]
    unfold keysN at *
    rw [← List.range'_append_1, ← List.range'_append_1, List.map_append, List.map_append, show o + 1 + (l.size - 1) = o + l.size by (first | lia | omega)]
    show ((l.ent o ++ (r.ent (o + l.size) ++ [(((o + l.size : Nat) : Int), valS l.size r.size)])).map (·.1)).Perm _
    rw [List.map_append, List.map_append]
    refine h1.append ((h2.append_right _).trans ?_)
    exact List.perm_append_comm
theorem ent_mem : ∀ (t : Tr) (o : Nat), t.size ≤ 7 → ∀ (i v : Nat), t.wl[i]? = some v → (((o + 1 + i : Nat) : Int), rep 46 v) ∈ t.ent o
  | .leaf _, o, h7, i, v, h => by simp [Tr.wl] at h
  | .node l r, o, h7, i, v, h => by
    have pl := l.size_pos
    have pr := r.size_pos
    have h7 : l.size + r.size ≤ 7 := h7
    have el := l.wl_len
    have h : (l.wl ++ l.size * r.size :: r.wl)[i]? = some v := h
    show _ ∈ l.ent o ++ (r.ent (o + l.size) ++ [(((o + l.size : Nat) : Int), valS l.size r.size)])
    by_cases q : i < l.wl.length
    · rw [List.getElem?_append_left q] at h
      exact List.mem_append_left _ (ent_mem l o (by ktn_no "om") i v h)
    · rw [List.getElem?_append_right (by ktn_no "om")] at h
      refine List.mem_append_right _ ?_
      cases hq : i - l.wl.length with
      | zero =>
        rw [hq] at h
        have hv : l.size * r.size = v := by simpa using h
        rw [← hv, ← val_rep pl pr h7, show o + 1 + i = o + l.size by (first | lia | omega)]
        exact List.mem_append_right _ (.head _)
      | succ k =>
        rw [hq] at h
        have := ent_mem r (o + l.size) (by ktn_no "om") k v (by simpa using h)
        rw [show o + l.size + 1 + k = o + 1 + i by (first | lia | omega)] at this
        exact List.mem_append_left _ this
theorem wEnd_tr (t : Tr) : wEnd ⟨(t.tx true).toArray⟩ = t.ent 0 := by
  unfold wEnd
  rw [units_tr, words_tr]
  rfl
theorem keysN_nodup (o n : Nat) : (keysN o n).Nodup := by
  unfold keysN
  refine List.Pairwise.map _ (fun a b h => ?_) (List.nodup_range' (s := o) (n := n))
  intro e
  exact h (by ktn_no "om")
theorem keysN_le (o n : Nat) : (keysN o n).Pairwise (· ≤ ·) := by
  unfold keysN
  refine List.Pairwise.map _ (fun a b h => ?_) (List.pairwise_lt_range' (s := o) (n := n))
  (first | lia | omega)
theorem words_wl (t : Tr) (h7 : t.size ≤ 7) : (keysN 1 (t.size - 1)).map (wVal ⟨(t.tx true).toArray⟩) = t.wl.map (rep 46) := by
  have hw := t.wl_len
  unfold keysN
  rw [List.map_map]
  refine List.ext_getElem (by simp; (first | lia | omega)) fun i h1 h2 => ?_
  have hi : i < t.wl.length := by simpa using h2
  simp only [List.getElem_map, Function.comp_apply, List.getElem_range']
  have hm := ent_mem t 0 h7 i _ (List.getElem?_eq_getElem hi)
  obtain ⟨j, hj⟩ := List.getElem?_of_mem hm
  have hn : ((t.ent 0).map (·.1)).Nodup := (ent_perm t 0).nodup_iff.mpr (keysN_nodup _ _)
  have := lookup_at _ j _ _ hn hj
  unfold wVal
  rw [wEnd_tr, show 1 + 1 * i = 0 + 1 + i by (first | lia | omega), this]
  rfl
theorem wl_pos : ∀ (t : Tr), ∀ v ∈ t.wl, 0 < v
  | .leaf _, v, h => by cases h
  | .node l r, v, h => by
    rcases List.mem_append.mp (show v ∈ l.wl ++ l.size * r.size :: r.wl from h) with h | h
    · exact wl_pos l v h
    · rcases List.mem_cons.mp h with rfl | h
      · exact Nat.mul_pos l.size_pos r.size_pos
      · exact wl_pos r v h
theorem wl_le : ∀ (t : Tr), ∀ v ∈ t.wl, v ≤ t.size * t.size
  | .leaf _, v, h => by cases h
  | .node l r, v, h => by
    have e : Tr.size (.node l r) = l.size + r.size := rfl
    have h1 : l.size * l.size ≤ (l.size + r.size) * (l.size + r.size) := Nat.mul_le_mul (by ktn_no "om") (by ktn_no "om")
    have h2 : r.size * r.size ≤ (l.size + r.size) * (l.size + r.size) := Nat.mul_le_mul (by ktn_no "om") (by ktn_no "om")
    have h3 : l.size * r.size ≤ (l.size + r.size) * (l.size + r.size) := Nat.mul_le_mul (by ktn_no "om") (by ktn_no "om")
    rw [e]
    rcases List.mem_append.mp (show v ∈ l.wl ++ l.size * r.size :: r.wl from h) with h | h
    · exact Nat.le_trans (wl_le l v h) h1
    · rcases List.mem_cons.mp h with rfl | h
      · exact h3
      · exact Nat.le_trans (wl_le r v h) h2
theorem rep_word {k : Nat} (h : 0 < k) (h2 : k ≤ 5000) : Word 46 (e0, rep 46 k) := by
  refine ⟨rfl, ⟨(List.replicate (k - 1) 46).toArray, ?_⟩, by show (rep 46 k).length ≤ 5000; rw [rep_len]; exact h2⟩
  show (List.replicate k 46).toArray = _
  obtain ⟨n, rfl⟩ : ∃ n, k = n + 1 := ⟨k - 1, by (first | lia | omega)⟩
  rw [List.replicate_succ', List.push_toArray]
  rfl
theorem rep_free (k : Nat) : 10 ∉ (rep 46 k).cps.toList := by
  intro h
  have h : 10 ∈ List.replicate k 46 := by simpa [rep] using h
  rw [List.mem_replicate] at h
  (first | lia | omega)
/-! which words fill a row -/
theorem lens_rep (l : List Nat) : lens (l.map (rep 46)) = (l.sum : Nat) := by
  unfold lens
  induction l with
  | nil => rfl
  | cons a l ih =>
    simp only [List.map_cons, List.sum_cons, rep_len] at ih ⊢
    rw [ih]; (first | lia | omega)
theorem lens_nonneg (l : List PySem.Str) : 0 ≤ lens l := by
  unfold lens
  induction l with
  | nil => simp
  | cons a l ih => simp only [List.map_cons, List.sum_cons]; (first | lia | omega)
theorem lens_app (a b : List PySem.Str) : lens (a ++ b) = lens a + lens b := by unfold lens; simp
theorem fold_fit (W : Int) : ∀ (ws st : List PySem.Str), lens (st ++ ws) ≤ W → ws.foldl (gr W) ([], st) = ([], st ++ ws)
  | [], st, _ => by simp
  | v :: ws, st, h => by
    have e : gr W ([], st) v = ([], st ++ [v]) := by
      unfold gr
      rw [if_neg]
      intro x
      have h1 := lens_nonneg ws
      have h2 : lens (st ++ v :: ws) = lens (st ++ [v]) + lens ws := by rw [← lens_app]; simp
      exact absurd x.1 (by dsimp only; (first | lia | omega))
    rw [List.foldl_cons, e, fold_fit W ws (st ++ [v]) (by simpa using h)]
    simp
theorem cat_lens (l : List PySem.Str) : ((cat l).length : Int) = lens l := by
  rw [cat_length]
  unfold lens
  induction l with
  | nil => rfl
  | cons a l ih => simp only [List.map_cons, List.sum_cons]; rw [← ih]; (first | lia | omega)
theorem sizes_rows {W : Int} {ws : List PySem.Str} (h : ∀ v ∈ ws, 10 ∉ v.cps.toList) : sizesV W ws = (rowsG W ws).map lens := by
  unfold sizesV
  rw [rows_free h, rowStrs_eq, List.map_map]
  exact List.map_congr_left fun r _ => cat_lens r
theorem sizes_fit {W : Int} {ws : List PySem.Str} (h : ∀ v ∈ ws, 10 ∉ v.cps.toList) (hl : lens ws ≤ W) : sizesV W ws = [lens ws] := by
  rw [sizes_rows h]
  unfold rowsG
  rw [fold_fit W ws [] (by simpa using hl)]
  simp
theorem sizes_one {W : Int} {ws : List PySem.Str} (h : ∀ v ∈ ws, 10 ∉ v.cps.toList) {x : Int} (hx : sizesV W ws = [x]) : x = lens ws := by
  rw [sizes_rows h] at hx
  obtain ⟨r, hr, e⟩ := List.map_eq_singleton_iff.mp hx
  have := rowsG_flat W ws
  rw [hr] at this
  have : r = ws := by simpa using this
  rw [← e, this]
theorem mem_prI {ps : List (Nat × Nat)} {i j : Nat} : (((i : Nat) : Int), ((j : Nat) : Int)) ∈ prI ps ↔ (i, j) ∈ ps := by
  unfold prI
  constructor
  · intro h
    obtain ⟨⟨a, b⟩, hp, e⟩ := List.mem_map.mp h
    simp only [Prod.mk.injEq] at e
    have h1 : a = i := by (first | lia | omega)
    have h2 : b = j := by (first | lia | omega)
    rw [← h1, ← h2]
    exact hp
  · intro h
    exact List.mem_map.mpr ⟨_, h, rfl⟩
theorem fits (t : Tr) (i j : Nat) (hij : i < j) (hj : j ≤ t.size - 1) :
    ((((i : Nat) : Int), ((j : Nat) : Int)) ∈ prI (t.parts 0) → sizesV (widN (j - i) : Nat) (segS (t.wl.map (rep 46)) i j) = [((widN (j - i) : Nat) : Int)]) ∧
      ((((i : Nat) : Int), ((j : Nat) : Int)) ∉ prI (t.parts 0) → ∀ x, sizesV (widN (j - i) : Nat) (segS (t.wl.map (rep 46)) i j) = [x] → ((widN (j - i) : Nat) : Int) < x) := by
  have hp := t.size_pos
  have e : segS (t.wl.map (rep 46)) i j = ((t.wl.drop i).take (j - i)).map (rep 46) := by
    unfold segS
    rw [List.map_take, List.map_drop]
  have hf : ∀ v ∈ ((t.wl.drop i).take (j - i)).map (rep 46), 10 ∉ v.cps.toList := fun v hv => by
    obtain ⟨k, _, rfl⟩ := List.mem_map.mp hv
    exact rep_free k
  have hl : lens (((t.wl.drop i).take (j - i)).map (rep 46)) = ((t.seg i j : Nat) : Int) := lens_rep _
  rw [e, mem_prI]
  constructor
  · intro h
    have := t.seg_part 0 i j (by rw [Nat.zero_add, Nat.zero_add]; exact h)
    have hw : widN (j - i) = t.seg i j := by unfold widN; (first | lia | omega)
    rw [sizes_fit hf (by rw [hl, hw]; exact Int.le_refl _), hl, hw]
  · intro h x hx
    have := t.seg_other 0 i j hij (by ktn_no "om") (by rw [Nat.zero_add, Nat.zero_add]; exact h)
    rw [sizes_one hf hx, hl]
    unfold widN
    (first | lia | omega)
theorem body_is : body_law = [lawSt 0, lawSt 1, lawSt 2, lawSt 3, lawSt 4, lawSt 5, lawSt 6, lawSt 7, lawSt 8] := by kernel_rfl
section
variable {w : World} {A : Around} {E : Value → Shared → Prop} {Q : Value → Shared → Prop} {s₁ : Shared} {n : Nat}
/-- a call of the law, from its first frame on -/
theorem law_call {sa : Addr} (R : Room (n + 71) A) (W : WfB w (hideAll s₁.heap [T1, T2])) (tb : TabOk s₁.heap) (hsz : szTop ≤ s₁.heap.objs.size) (X : (KF w.params).In s₁.heap) (hnl : s₁.heap.NoLimit)
    (h : ∀ L s₂, Fm w (hideAll s₁.heap [T1, T2]) L (envLaw L).cells s₁ (bindL (envLaw L).kindOf [("script", .ref sa)] fun _ => none) (bindC (envLaw L).kindOf [("script", .ref sa)] fun _ => none) [] s₂ → OwnC (hideAll s₁.heap [T1, T2]) (envLaw L).cells → Room (n + 70) (A.deeper (envLaw L)) →
      wpAny (M w) (A.deeper (envLaw L)) (execs body_law (envLaw L)) (fun fl s' => Q (retV fl) s') (fun _ _ => False) s₂) :
    wpAny (M w) A (call (.ref a_law) [.ref sa] []) Q E s₁ := by
  refine wpAny_call (codeAny_call_cells (fd := fd_law) (body := body_law) (binds := [("script", .ref sa)]) R.lt (X _ _ (lk_law _)) rfl hnl (codeRec_of X (cd_law _)) rfl (by rfl) rfl (fun x hx => ?_) (fun s₂ I => ?_) rfl rfl rfl)
  · have hk : ∀ z, ([("script", Value.ref sa)] : List (PySem.Str × Value)).all (fun x => decide (fd_law.scope.names.lookup x.1 = some .local) || (decide (fd_law.scope.names.lookup x.1 = some .cell) && ((cellsFrom z fd_law.scope.names []).lookup x.1).isSome)) = true := fun z => by kernel_rfl
    have := List.all_eq_true.mp (hk (s₁.heap.objs.size + 1)) x hx
    rw [Bool.or_eq_true, Bool.and_eq_true, decide_eq_true_eq, decide_eq_true_eq] at this
    exact this
  have IC := I.toInCall
  (refine x2_1 (IC.same) ?_; intro h₁ tk eqX2; subst eqX2)
  have hz : s₁.heap.objs.size < h₁.objs.size := IC.ns.lt
  have hnone : ∀ c, s₁.heap.objs.size ≤ c → (hideAll s₁.heap [T1, T2]).get? c = none := fun c hc => by
    cases q : (hideAll s₁.heap [T1, T2]).get? c with
    | none => rfl
    | some o => exact absurd (Heap.lt_size q) (by rw [hideAll_size]; exact Nat.not_lt.mpr hc)
  have hab : ∀ nm c, (envLaw s₁.heap.objs.size).cells.lookup nm = some c → s₁.heap.objs.size < c := fun nm c e => I.above nm c (mem_of_lookup e)
  have F₀ : Fm w (hideAll s₁.heap [T1, T2]) s₁.heap.objs.size (envLaw s₁.heap.objs.size).cells s₁ (bindL (envLaw s₁.heap.objs.size).kindOf [("script", .ref sa)] fun _ => none) (bindC (envLaw s₁.heap.objs.size).kindOf [("script", .ref sa)] fun _ => none) [] { s₁ with heap := h₁, toks := tk } := {
    wf := W
    ns := IC.ns
    keep := fun b o e => IC.keep b o (of_hideAll _ e)
    above := ⟨hnone _ (Nat.le_refl _), hsz⟩
    nw := fun p hp => by cases hp
    nd := List.nodup_nil
    ce := I.cell
    cd := fun nm c e => ⟨Nat.ne_of_gt (hab nm c e), (fun q => by cases q), fun t => absurd (tab_lt t) (Nat.not_lt.mpr (Nat.le_trans hsz (Nat.le_of_lt (hab nm c e))))⟩
    cp := fun n n' c e e' => name_of_addr I.apart (mem_of_lookup e) (mem_of_lookup e')
    tb := tb.keeps IC.keep
    rl := ⟨rfl, fun _ _ e => e, id, fun t _ ps e => ⟨#[], by simpa using IC.keep _ _ e⟩, trivial⟩ }
  refine wpAny_mono (h s₁.heap.objs.size _ F₀ (fun nm c e => ⟨hnone c (Nat.le_of_lt (hab nm c e)), Nat.le_trans hsz (Nat.le_of_lt (hab nm c e))⟩) R.deeper) (fun fl s' hb => ?_) (fun _ _ x => x.elim)
  cases fl <;> exact hb
end
section
variable {w : World} {A : Around} {E : Value → Shared → Prop} {Q : Value → Shared → Prop} {s₁ : Shared} {n : Nat}
theorem law_run {sa : Addr} {vs : List Value} {ns : List Int} (R : Room (n + 71) A) (W : WfB w (hideAll s₁.heap [T1, T2])) (tb : TabOk s₁.heap) (hsz : szTop ≤ s₁.heap.objs.size) (X : (KF w.params).In s₁.heap) (hnl : s₁.heap.NoLimit)
    (hB : (hideAll s₁.heap [T1, T2]).IsList sa vs.toArray) (hI : IntsAre vs ns) (h63 : ns.length ≤ 63)
    (h : ∀ L m cl cm rest s', Fm w (hideAll s₁.heap [T1, T2]) L cl s₁ m cm rest s' → Q (.bool true) s') : wpAny (M w) A (call (.ref a_law) [.ref sa] []) Q E s₁ := by
  refine law_call R W tb hsz X hnl fun L s₂ F HC R => ?_
  rw [body_is]
  have m1 : bindL (envLaw L).kindOf [("script", .ref sa)] (fun _ => none) "script" = some (.ref sa) := by kernel_rfl
  revert F
  generalize bindL (envLaw L).kindOf [("script", .ref sa)] (fun _ => none) = m at m1 ⊢
  generalize bindC (envLaw L).kindOf [("script", .ref sa)] (fun _ => none) = cm
  intro F
  have lv := hI.length
  refine wpAny_execs_cons (law_0 (n := n + 50) R F HC hB hI (by ktn_no "om") m1 fun D₀ cs k₀ s' hc1 hc2 F₁ => ?_)
  clear F
  refine wpAny_execs_cons (law_1 (n := n + 50) R F₁ HC (.head _) hc1 (fun c hc => (hc2 c hc).1) rfl fun N₀ nums k₁ s' hn1 hn2 F₂ => ?_)
  clear F₁
  refine wpAny_execs_cons (law_2 (n := n) R F₂ (N := N₀) (ns := nums) (k := k₁) (.head _) rfl fun j t₂ s' hj F₃ => ?_)
  clear F₂
  refine wpAny_execs_cons (law_3 (n := n) R F₃ (N := N₀) (ns := nums) (k := k₁) (last := 4 + j) (tl := t₂) (.head _) hn1 hn2 (by ktn_no "om") rfl rfl fun la pv pl kp t₃ s' hP F₄ => ?_)
  clear F₃
  have hsz := draw_size (nums.map (·.1.toNat)) 8 0 (4 + j) (by ktn_no "om") (by ktn_no "om")
  generalize drawT (nums.map (·.1.toNat)) 8 0 (4 + j) = tr at *
  have hz7 : tr.size ≤ 7 := by (first | lia | omega)
  cases tr with
  | leaf k => have : Tr.size (.leaf k) = 1 := rfl; (first | lia | omega)
  | node tl tr =>
  refine wpAny_execs_cons (law_4 (n := n) R F₄ (l := tl) (r := tr) (t := t₃) hz7 rfl fun s' F₅ => ?_)
  clear F₄
  have hent := ent_len (.node tl tr) 0
  have hwok : WOk (units ⟨(Tr.tx true (.node tl tr)).toArray⟩) ([], [], 0) := by
    rw [units_tr]
    exact words_ok val_ok _ 0 0 [] [] hz7 (by simp; (first | lia | omega)) (by ktn_no "om") (by simp; (first | lia | omega)) (fun q hq => by cases hq)
  refine wpAny_execs_cons (law_5 (n := n) R F₅ (tr := .node tl tr) (t := t₃) (ks := keysN 1 (Tr.size (.node tl tr) - 1)) hz7 rfl hwok (by rw [wEnd_tr]; (first | lia | omega)) (by rw [wEnd_tr]; exact (ent_perm _ 0).symm) (keysN_le _ _) fun Wa ws kw s' hws F₆ => ?_)
  clear F₅
  rw [words_wl _ hz7] at hws
  generalize Tr.node tl tr = tr at *
  have hwl : ws.length = 4 + j := by
    have e1 := congrArg List.length hws
    have e2 := tr.wl_len
    simp at e1
    (first | lia | omega)
  have hmem : ∀ z ∈ ws, ∃ k ∈ tr.wl, z.1 = rep 46 k := fun z hz => by
    have : z.1 ∈ tr.wl.map (rep 46) := by rw [← hws]; exact List.mem_map_of_mem hz
    obtain ⟨k, hk, e⟩ := List.mem_map.mp this
    exact ⟨k, hk, e.symm⟩
  have hk49 : ∀ k ∈ tr.wl, k ≤ 49 := fun k hk => Nat.le_trans (wl_le tr k hk) (Nat.mul_le_mul hz7 hz7)
  refine wpAny_execs_cons (law_6 (n := n) R F₆ (W := Wa) (ws := ws) (k := kw) (last := 4 + j) (tl := t₂) (.head _) hwl (by ktn_no "om") rfl rfl fun s' F₇ => ?_)
  clear F₆
  refine wpAny_execs_cons (law_7 (n := n) R F₇ (Wa := Wa) (la := la) (ws := ws) (kw := kw) (kl := kp) (last := 4 + j) (vs := pv) (l := pl) (ps := prI (tr.parts 0)) (tl := t₂) (.head _) (.tail _ (.head _)) (fun p hp => .tail _ (.tail _ (List.mem_append_left _ hp))) hP hwl (by ktn_no "om")
    (fun z hz => by obtain ⟨k, hk, e⟩ := hmem z hz; rw [e]; exact rep_word (wl_pos tr k hk) (Nat.le_trans (hk49 k hk) (by decide)))
    (fun z hz => by obtain ⟨k, hk, e⟩ := hmem z hz; rw [e, rep_len]; exact Nat.le_trans (hk49 k hk) (by decide))
    (fun z hz => by obtain ⟨k, hk, e⟩ := hmem z hz; rw [e]; exact rep_free k)
    (fun a b hab hb => by rw [hws]; exact fits tr a b hab (by ktn_no "om")) rfl rfl rfl fun m' s' F₈ => ?_)
  clear F₇
  refine wpAny_execs_cons (law_8 F₈ fun s' F₉ => ?_)
  exact h _ _ _ _ _ _ F₉
end
theorem kf_of {w : World} {s : Shared} (Y : obsv s = valv w) : (KF w.params).In s.heap ∧ s.heap.objs.size = szTop ∧ tabsIn s = true := by
  have h := Y
  unfold obsv valv at h
  simp only [Prod.mk.injEq] at h
  (refine x0_3 (h) ?_; try clear h; intro h1 h2 h3)
  refine ⟨fun a o e => ?_, h2, h3⟩
  have hk : (KF w.params).map (·.1) = kAddrs := by kernel_rfl
  rw [← hk, List.map_map] at h1
  have key : ∀ l : Frag, l.map (s.heap.get? ∘ (·.1)) = l.map (fun p => some p.2) → ∀ a o, l.lookup a = some o → s.heap.get? a = some o := fun l => by
    induction l with
    | nil => intro _ a o e; cases e
    | cons p l ih =>
      intro hh a o e
      obtain ⟨x, y⟩ := p
      simp only [List.map_cons, List.cons.injEq] at hh
      rw [List.lookup_cons] at e
      cases hb : a == x with
      | true => rw [hb] at e; simp only at e; rw [beq_iff_eq.mp hb]; rw [← Option.some.inj e]; exact hh.1
      | false => rw [hb] at e; exact ih hh.2 a o e
  exact key _ h1 a o e
theorem tab_of {h : Heap} {t : Addr} (e : tabOne h t = true) : h.get? t = some (tableObj #[]) := by
  unfold tabOne at e
  split at e
  case h_2 => cases e
  case h_1 a sl e1 =>
  rw [Bool.and_eq_true, beq_iff_eq, beq_iff_eq] at e
  have ha := Array.eq_empty_of_size_eq_zero e.1
  have hb := Array.eq_empty_of_size_eq_zero e.2
  subst ha hb
  exact e1
theorem tabs_of {s : Shared} (h : tabsIn s = true) : s.heap.get? T1 = some (tableObj #[]) ∧ s.heap.get? T2 = some (tableObj #[]) := by
  unfold tabsIn at h
  rw [Bool.and_eq_true] at h
  exact ⟨tab_of h.1, tab_of h.2⟩
section
variable {w : World} {h : Heap}
theorem tab_a (X : (KF w.params).In h) (e : h.get? T1 = some (tableObj #[])) : h.IsCode C1 T1 #[] ∧ h.TableAt C1 T1 #[] :=
  ⟨⟨_, _, _, _, _, _, _, _, _, _, X C1 _ (by ktn_no "k_ev"), by ktn_no "k_ev", by kernel_rfl, by ktn_no "k_ev", by ktn_no "k_ev", by ktn_no "k_ev", by ktn_no "k_ev", e, rfl, trivial, by decide⟩, ⟨⟨_, _, X C1 _ (by ktn_no "k_ev"), by kernel_rfl, by ktn_no "k_ev", by kernel_rfl⟩, e⟩⟩
theorem tab_b (X : (KF w.params).In h) (e : h.get? T2 = some (tableObj #[])) : h.IsCode C2 T2 #[] ∧ h.TableAt C2 T2 #[] :=
  ⟨⟨_, _, _, _, _, _, _, _, _, _, X C2 _ (by ktn_no "k_ev"), by ktn_no "k_ev", by kernel_rfl, by ktn_no "k_ev", by ktn_no "k_ev", by ktn_no "k_ev", by ktn_no "k_ev", e, rfl, trivial, by decide⟩, ⟨⟨_, _, X C2 _ (by ktn_no "k_ev"), by kernel_rfl, by ktn_no "k_ev", by kernel_rfl⟩, e⟩⟩
theorem hid {b : Addr} {o : Obj} (e : h.get? b = some o) (h1 : b ≠ T1) (h2 : b ≠ T2) : (hideAll h [T1, T2]).get? b = some o :=
  hideAll_get _ e fun q => by
    rcases List.mem_cons.mp q with q | q
    · exact h1 q
    · rcases List.mem_cons.mp q with q | q
      · exact h2 q
      · cases q
theorem wf_of {p : Program} {loose : List PySem.Str} {mean : ExcName → Option Value} {mg mb : PySem.Str → Option Value} (X : (KF w.params).In h) (T : Top p loose mean mg mb h) (e1 : h.get? T1 = some (tableObj #[])) (e2 : h.get? T2 = some (tableObj #[])) (hz : szTop ≤ h.objs.size) : WfB w (hideAll h [T1, T2]) where
  k := fun a o e => hid (X a o e) (fun q => by rw [q, show (KF w.params).lookup T1 = none by kernel_rfl] at e; cases e) (fun q => by rw [q, show (KF w.params).lookup T2 = none by kernel_rfl] at e; cases e)
  g := ⟨mg, T.g.at' fun o e => hid e (by decide) (by decide)⟩
  b := ⟨mb, T.b.at' fun o e => hid e (by decide) (by decide), T.builtins⟩
  nl := let ⟨mc, a, b⟩ := T.nolimit; ⟨mc, a.at' fun o e => hid e (by decide) (by decide), b⟩
  bm := by
    (refine x2_6 (T.bmain) ?_; intro bm ob a b c d e f)
    refine ⟨mg, bm, ob, T.g.at' fun o e => hid e (by decide) (by decide), a, b, hid c (fun q => ?_) (fun q => ?_), d, e, f⟩
    · rw [q, e1] at c; rw [← Option.some.inj c] at d; cases d
    · rw [q, e2] at c; rw [← Option.some.inj c] at d; cases d
  sz := by rw [hideAll_size]; exact hz
  t1 := hideAll_none _ (.head _)
  t2 := hideAll_none _ (.tail _ (.head _))
/-- what stands after the law's call -/
theorem old_of {L : Addr} {m : PySem.Str → Option Value} {cl : List (PySem.Str × Addr)} {cm : PySem.Str → Option Value} {rest : List (Addr × Obj)} {s₁ s' : Shared} (X : (KF w.params).In s₁.heap) (e1 : s₁.heap.get? T1 = some (tableObj #[])) (e2 : s₁.heap.get? T2 = some (tableObj #[]))
    (F : Fm w (hideAll s₁.heap [T1, T2]) L cl s₁ m cm rest s') : OldK s₁.heap s'.heap := by
  have key : ∀ b o, s₁.heap.get? b = some o → asItWas s₁.heap s'.heap b o ∧ ∃ o', s'.heap.get? b = some o' := fun b o e => by
    by_cases q1 : b = T1
    · subst q1
      rw [e1] at e
      obtain ⟨more, hm⟩ := F.rl.tg _ (.inl rfl) _ e1
      rw [← Option.some.inj e]
      exact ⟨.inr (.inl ⟨(tab_a X e1).2.isCodeTable, rfl, #[], more, rfl, hm⟩), _, hm⟩
    · by_cases q2 : b = T2
      · subst q2
        rw [e2] at e
        obtain ⟨more, hm⟩ := F.rl.tg _ (.inr rfl) _ e2
        rw [← Option.some.inj e]
        exact ⟨.inr (.inl ⟨(tab_b X e2).2.isCodeTable, rfl, #[], more, rfl, hm⟩), _, hm⟩
      · have := F.keep b o (hid e q1 q2)
        exact ⟨.inl this, _, this⟩
  exact ⟨fun b o e => (key b o e).1, fun b o e => (key b o e).2⟩
end
theorem room_caller : Room (0 + 71) callerA := ⟨rfl, by decide, by decide, ⟨[], rfl⟩⟩
end Mine
open PySem PySem.W PySem.W.X PySem.Calls PyProof.Rows Mine
theorem PySem.Challenge.cw_tc0024_02_holds : PySem.Challenge.rw_tc0024_02.Holds := by
  refine holds_law (by kernel_rfl) fun said => ?_
  refine holds_openX (q := qv) (loose := lz) (Xt := fun s => xlAt qv [] s && recOk (RowW.records (OpenRow.toRowW (OpenLaw.row PySem.Challenge.rw_tc0024_02))) s) (XP := XL qv []) (Yf := obsv) (Ya := valv) (N := 4000) left (fun s e => xl_of s (Bool.and_eq_true_iff.mp e).1) XL.keeps (by rfl) (by rfl) (by rfl) (fun s e => recFacts_of (Bool.and_eq_true_iff.mp e).2) (by rfl) (by first | assumption | decide +kernel) (by decide +kernel) ⟨rfl, rfl, rfl, rfl, rfl, by decide +kernel⟩ ?hw ?hc
  case hw => exact ⟨[.list []], by decide +kernel, by decide +kernel⟩
  case hc =>
    intro w s₀ s₁ mg mb G Y fa o pm cd doc dV kV ho hd hcd hD hmg hg args vals as L hpre hlay hrd hwl hlo
    refine Ground.open G ?_
    intro T B D TE TW
    wrow_args hpre hlay hrd hwl hlo
    rename_i xs _ _ _ _ _ _ _ sa vs _ hl _ _ _ hI _ hlen _
    obtain ⟨K₀, z₀, tb₀⟩ := kf_of Y
    obtain ⟨t1, t2⟩ := tabs_of tb₀
    have K₁ := K₀.keeps L.keeps
    have e1 := L.keeps _ _ t1
    have e2 := L.keeps _ _ t2
    have hz : szTop ≤ s₁.heap.objs.size := Heap.lt_size (K₁ _ _ (lk_law _))
    have hfa : mg "law" = some (.ref a_law) := mg_of K₁ T.g (by kernel_rfl)
    have hfe : fa = a_law := by
      have : some (Value.ref fa) = some (Value.ref a_law) := hmg.symm.trans hfa
      exact Value.ref.inj (Option.some.inj this)
    subst hfe
    have W := wf_of K₁ T e1 e2 hz
    have tb : TabOk s₁.heap := ⟨⟨_, tab_a K₁ e1⟩, ⟨_, tab_b K₁ e2⟩⟩
    have hB : (hideAll s₁.heap [T1, T2]).IsList sa vs.toArray := by
      obtain ⟨ol, hol, hoc, nn, hod⟩ := hl
      refine ⟨ol, hid hol (fun q => ?_) (fun q => ?_), hoc, nn, hod⟩
      · rw [q, e1] at hol; rw [← Option.some.inj hol] at hoc; cases hoc
      · rw [q, e2] at hol; rw [← Option.some.inj hol] at hoc; cases hoc
    refine law_run (n := 0) room_caller W tb hz K₁ T.nolimit hB hI (by omega) fun L' m' cl' cm' rest' s' F => ?_
    refine ⟨.inl ⟨.bool true, .bool true, [], rfl, fun _ => by rfl, .bool true, by first | rfl | wrow_post, fun _ => ⟨List.nodup_nil, fun a ha => by cases ha⟩⟩, old_of K₁ e1 e2 F, F.rl.os, F.rl.bare ?_⟩
    intro x hx
    rw [L.gens] at hx
    simp at hx
