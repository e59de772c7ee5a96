import PyProof.Rows.All
import Wide.All
import OpenK.AllK
import Wide.FinOn
import PySem.Challenge.RW_tc0024_03
set_option Elab.async false
set_option maxRecDepth 100000
set_option maxHeartbeats 0
set_option linter.all false
set_option compiler.extract_closed false
set_option hygiene false
namespace Mine
open PySem PySem.W PySem.Calls PyProof.Rows
noncomputable abbrev pw : Program := PySem.Challenge.pw_tc0024_03
noncomputable def stAt (i : Nat) : Stmt := pw.main.body.getD i (.Pass default)
noncomputable def bodyOf : Stmt → List Stmt
 | .FunctionDef _ _ b _ _ _ _ _ _ _ => b
 | .ClassDef _ _ _ b _ _ _ _ _ _ _ => b
 | _ => []
noncomputable def parOf : Stmt → Arguments
 | .FunctionDef _ a _ _ _ _ _ _ _ _ => a
 | _ => ⟨[], [], none, [], [], none, []⟩
noncomputable def scOf : Stmt → Scope
 | .FunctionDef _ _ _ _ _ _ s _ _ _ => s
 | _ => default
noncomputable def methAt (i j : Nat) : Stmt := (bodyOf (stAt i)).getD j (.Pass default)
noncomputable abbrev a_iter_escaped_chars : Addr := 45
noncomputable def body_iter_escaped_chars : List Stmt := (bodyOf (stAt 3))
noncomputable def fd_iter_escaped_chars : FuncData := { name := (Str.ofString "_iter_escaped_chars"), qualname := (Str.ofString "_iter_escaped_chars"), params := parOf (stAt 3), body := .stmts body_iter_escaped_chars, scope := scOf (stAt 3), globals := 3, closure := [], defaults := .none, kwdefaults := .none, doc := .none, pyModule := .str (Str.ofString "cpy313.email.utils") 289, annotations := none, code := .ref 44, closureTuple := .none, builtins := 0 }
noncomputable abbrev a_strip_quoted_realnames : Addr := 52
noncomputable def body_strip_quoted_realnames : List Stmt := (bodyOf (stAt 4))
noncomputable def fd_strip_quoted_realnames : FuncData := { name := (Str.ofString "_strip_quoted_realnames"), qualname := (Str.ofString "_strip_quoted_realnames"), params := parOf (stAt 4), body := .stmts body_strip_quoted_realnames, scope := scOf (stAt 4), globals := 3, closure := [], defaults := .none, kwdefaults := .none, doc := .none, pyModule := .str (Str.ofString "cpy313.email.utils") 289, annotations := none, code := .ref 51, closureTuple := .none, builtins := 0 }
noncomputable abbrev a_check_parenthesis : Addr := 59
noncomputable def body_check_parenthesis : List Stmt := (bodyOf (stAt 5))
noncomputable def fd_check_parenthesis : FuncData := { name := (Str.ofString "_check_parenthesis"), qualname := (Str.ofString "_check_parenthesis"), params := parOf (stAt 5), body := .stmts body_check_parenthesis, scope := scOf (stAt 5), globals := 3, closure := [], defaults := .none, kwdefaults := .none, doc := .none, pyModule := .str (Str.ofString "cpy313.email.utils") 289, annotations := none, code := .ref 58, closureTuple := .none, builtins := 0 }
noncomputable abbrev a_VF_dinit : Addr := 73
noncomputable def body_VF_dinit : List Stmt := (bodyOf (methAt 9 0))
noncomputable def fd_VF_dinit : FuncData := { name := (Str.ofString "__init__"), qualname := (Str.ofString "_ValueFormatter.__init__"), params := parOf (methAt 9 0), body := .stmts body_VF_dinit, scope := scOf (methAt 9 0), globals := 3, closure := [], defaults := .none, kwdefaults := .none, doc := .none, pyModule := .str (Str.ofString "cpy313.email.header") 323, annotations := none, code := .ref 72, closureTuple := .none, builtins := 0 }
noncomputable abbrev a_VF_str : Addr := 80
noncomputable def body_VF_str : List Stmt := (bodyOf (methAt 9 1))
noncomputable def fd_VF_str : FuncData := { name := (Str.ofString "_str"), qualname := (Str.ofString "_ValueFormatter._str"), params := parOf (methAt 9 1), body := .stmts body_VF_str, scope := scOf (methAt 9 1), globals := 3, closure := [], defaults := .none, kwdefaults := .none, doc := .none, pyModule := .str (Str.ofString "cpy313.email.header") 323, annotations := none, code := .ref 79, closureTuple := .none, builtins := 0 }
noncomputable abbrev a_VF_dstr : Addr := 87
noncomputable def body_VF_dstr : List Stmt := (bodyOf (methAt 9 2))
noncomputable def fd_VF_dstr : FuncData := { name := (Str.ofString "__str__"), qualname := (Str.ofString "_ValueFormatter.__str__"), params := parOf (methAt 9 2), body := .stmts body_VF_dstr, scope := scOf (methAt 9 2), globals := 3, closure := [], defaults := .none, kwdefaults := .none, doc := .none, pyModule := .str (Str.ofString "cpy313.email.header") 323, annotations := none, code := .ref 86, closureTuple := .none, builtins := 0 }
noncomputable abbrev a_VF_newline : Addr := 94
noncomputable def body_VF_newline : List Stmt := (bodyOf (methAt 9 3))
noncomputable def fd_VF_newline : FuncData := { name := (Str.ofString "newline"), qualname := (Str.ofString "_ValueFormatter.newline"), params := parOf (methAt 9 3), body := .stmts body_VF_newline, scope := scOf (methAt 9 3), globals := 3, closure := [], defaults := .none, kwdefaults := .none, doc := .none, pyModule := .str (Str.ofString "cpy313.email.header") 323, annotations := none, code := .ref 93, closureTuple := .none, builtins := 0 }
noncomputable abbrev a_VF_append_chunk : Addr := 129
noncomputable def body_VF_append_chunk : List Stmt := (bodyOf (methAt 9 8))
noncomputable def fd_VF_append_chunk : FuncData := { name := (Str.ofString "_append_chunk"), qualname := (Str.ofString "_ValueFormatter._append_chunk"), params := parOf (methAt 9 8), body := .stmts body_VF_append_chunk, scope := scOf (methAt 9 8), globals := 3, closure := [], defaults := .none, kwdefaults := .none, doc := .none, pyModule := .str (Str.ofString "cpy313.email.header") 323, annotations := none, code := .ref 128, closureTuple := .none, builtins := 0 }
noncomputable abbrev a_VF : Addr := 132
noncomputable abbrev a_VF_ns : Addr := 131
noncomputable abbrev a_Acc_dinit : Addr := 153
noncomputable def body_Acc_dinit : List Stmt := (bodyOf (methAt 10 0))
noncomputable def fd_Acc_dinit : FuncData := { name := (Str.ofString "__init__"), qualname := (Str.ofString "_Accumulator.__init__"), params := parOf (methAt 10 0), body := .stmts body_Acc_dinit, scope := scOf (methAt 10 0), globals := 3, closure := [((Str.ofString "__class__"), 140)], defaults := .ref 145, kwdefaults := .none, doc := .none, pyModule := .str (Str.ofString "cpy313.email.header") 323, annotations := none, code := .ref 152, closureTuple := .ref 146, builtins := 0 }
noncomputable abbrev a_Acc_push : Addr := 160
noncomputable def body_Acc_push : List Stmt := (bodyOf (methAt 10 1))
noncomputable def fd_Acc_push : FuncData := { name := (Str.ofString "push"), qualname := (Str.ofString "_Accumulator.push"), params := parOf (methAt 10 1), body := .stmts body_Acc_push, scope := scOf (methAt 10 1), globals := 3, closure := [], defaults := .none, kwdefaults := .none, doc := .none, pyModule := .str (Str.ofString "cpy313.email.header") 323, annotations := none, code := .ref 159, closureTuple := .none, builtins := 0 }
noncomputable abbrev a_Acc_pop_from : Addr := 168
noncomputable def body_Acc_pop_from : List Stmt := (bodyOf (methAt 10 2))
noncomputable def fd_Acc_pop_from : FuncData := { name := (Str.ofString "pop_from"), qualname := (Str.ofString "_Accumulator.pop_from"), params := parOf (methAt 10 2), body := .stmts body_Acc_pop_from, scope := scOf (methAt 10 2), globals := 3, closure := [], defaults := .ref 161, kwdefaults := .none, doc := .none, pyModule := .str (Str.ofString "cpy313.email.header") 323, annotations := none, code := .ref 167, closureTuple := .none, builtins := 0 }
noncomputable abbrev a_Acc_pop : Addr := 176
noncomputable def body_Acc_pop : List Stmt := (bodyOf (methAt 10 3))
noncomputable def fd_Acc_pop : FuncData := { name := (Str.ofString "pop"), qualname := (Str.ofString "_Accumulator.pop"), params := parOf (methAt 10 3), body := .stmts body_Acc_pop, scope := scOf (methAt 10 3), globals := 3, closure := [((Str.ofString "__class__"), 140)], defaults := .none, kwdefaults := .none, doc := .none, pyModule := .str (Str.ofString "cpy313.email.header") 323, annotations := none, code := .ref 175, closureTuple := .ref 169, builtins := 0 }
noncomputable abbrev a_Acc_dlen : Addr := 183
noncomputable def body_Acc_dlen : List Stmt := (bodyOf (methAt 10 4))
noncomputable def fd_Acc_dlen : FuncData := { name := (Str.ofString "__len__"), qualname := (Str.ofString "_Accumulator.__len__"), params := parOf (methAt 10 4), body := .stmts body_Acc_dlen, scope := scOf (methAt 10 4), globals := 3, closure := [], defaults := .none, kwdefaults := .none, doc := .none, pyModule := .str (Str.ofString "cpy313.email.header") 323, annotations := none, code := .ref 182, closureTuple := .none, builtins := 0 }
noncomputable abbrev a_Acc_dstr : Addr := 190
noncomputable def body_Acc_dstr : List Stmt := (bodyOf (methAt 10 5))
noncomputable def fd_Acc_dstr : FuncData := { name := (Str.ofString "__str__"), qualname := (Str.ofString "_Accumulator.__str__"), params := parOf (methAt 10 5), body := .stmts body_Acc_dstr, scope := scOf (methAt 10 5), globals := 3, closure := [], defaults := .none, kwdefaults := .none, doc := .none, pyModule := .str (Str.ofString "cpy313.email.header") 323, annotations := none, code := .ref 189, closureTuple := .none, builtins := 0 }
noncomputable abbrev a_Acc_reset : Addr := 198
noncomputable def body_Acc_reset : List Stmt := (bodyOf (methAt 10 6))
noncomputable def fd_Acc_reset : FuncData := { name := (Str.ofString "reset"), qualname := (Str.ofString "_Accumulator.reset"), params := parOf (methAt 10 6), body := .stmts body_Acc_reset, scope := scOf (methAt 10 6), globals := 3, closure := [], defaults := .ref 191, kwdefaults := .none, doc := .none, pyModule := .str (Str.ofString "cpy313.email.header") 323, annotations := none, code := .ref 197, closureTuple := .none, builtins := 0 }
noncomputable abbrev a_Acc_is_onlyws : Addr := 205
noncomputable def body_Acc_is_onlyws : List Stmt := (bodyOf (methAt 10 7))
noncomputable def fd_Acc_is_onlyws : FuncData := { name := (Str.ofString "is_onlyws"), qualname := (Str.ofString "_Accumulator.is_onlyws"), params := parOf (methAt 10 7), body := .stmts body_Acc_is_onlyws, scope := scOf (methAt 10 7), globals := 3, closure := [], defaults := .none, kwdefaults := .none, doc := .none, pyModule := .str (Str.ofString "cpy313.email.header") 323, annotations := none, code := .ref 204, closureTuple := .none, builtins := 0 }
noncomputable abbrev a_Acc_part_count : Addr := 213
noncomputable def body_Acc_part_count : List Stmt := (bodyOf (methAt 10 8))
noncomputable def fd_Acc_part_count : FuncData := { name := (Str.ofString "part_count"), qualname := (Str.ofString "_Accumulator.part_count"), params := parOf (methAt 10 8), body := .stmts body_Acc_part_count, scope := scOf (methAt 10 8), globals := 3, closure := [((Str.ofString "__class__"), 140)], defaults := .none, kwdefaults := .none, doc := .none, pyModule := .str (Str.ofString "cpy313.email.header") 323, annotations := none, code := .ref 212, closureTuple := .ref 206, builtins := 0 }
noncomputable abbrev a_Acc : Addr := 216
noncomputable abbrev a_Acc_ns : Addr := 215
noncomputable abbrev a_quotedata : Addr := 237
noncomputable def body_quotedata : List Stmt := (bodyOf (stAt 15))
noncomputable def fd_quotedata : FuncData := { name := (Str.ofString "quotedata"), qualname := (Str.ofString "quotedata"), params := parOf (stAt 15), body := .stmts body_quotedata, scope := scOf (stAt 15), globals := 3, closure := [], defaults := .none, kwdefaults := .none, doc := .none, pyModule := .str (Str.ofString "cpy313.smtplib") 533, annotations := none, code := .ref 236, closureTuple := .none, builtins := 0 }
noncomputable abbrev a_law_text : Addr := 244
noncomputable def body_law_text : List Stmt := (bodyOf (stAt 17))
noncomputable def fd_law_text : FuncData := { name := (Str.ofString "_law_text"), qualname := (Str.ofString "_law_text"), params := parOf (stAt 17), body := .stmts body_law_text, scope := scOf (stAt 17), globals := 3, closure := [], defaults := .none, kwdefaults := .none, doc := .none, pyModule := .str (Str.ofString "law_tc0024_03") 602, annotations := none, code := .ref 243, closureTuple := .none, builtins := 0 }
noncomputable abbrev a_law_dots : Addr := 249
noncomputable def body_law_dots : List Stmt := (bodyOf (stAt 18))
noncomputable def fd_law_dots : FuncData := { name := (Str.ofString "_law_dots"), qualname := (Str.ofString "_law_dots"), params := parOf (stAt 18), body := .stmts body_law_dots, scope := scOf (stAt 18), globals := 3, closure := [], defaults := .none, kwdefaults := .none, doc := .none, pyModule := .str (Str.ofString "law_tc0024_03") 602, annotations := none, code := .ref 248, closureTuple := .none, builtins := 0 }
noncomputable abbrev a_law_kinds : Addr := 254
noncomputable def body_law_kinds : List Stmt := (bodyOf (stAt 19))
noncomputable def fd_law_kinds : FuncData := { name := (Str.ofString "_law_kinds"), qualname := (Str.ofString "_law_kinds"), params := parOf (stAt 19), body := .stmts body_law_kinds, scope := scOf (stAt 19), globals := 3, closure := [], defaults := .none, kwdefaults := .none, doc := .none, pyModule := .str (Str.ofString "law_tc0024_03") 602, annotations := none, code := .ref 253, closureTuple := .none, builtins := 0 }
noncomputable abbrev a_law : Addr := 259
noncomputable def body_law : List Stmt := (bodyOf (stAt 20))
noncomputable def fd_law : FuncData := { name := (Str.ofString "law"), qualname := (Str.ofString "law"), params := parOf (stAt 20), body := .stmts body_law, scope := scOf (stAt 20), globals := 3, closure := [], defaults := .none, kwdefaults := .none, doc := .none, pyModule := .str (Str.ofString "law_tc0024_03") 602, annotations := none, code := .ref 258, closureTuple := .none, builtins := 0 }
noncomputable def KF (P : Params) : Frag := [
 (2, ⟨.none, none, .dict #[⟨PyData.keyHash P (Str.ofString "\x69mport.loaded._sre"), .str (Str.ofString "\x69mport.loaded._sre") 183, .bool true⟩, ⟨PyData.keyHash P (Str.ofString "class._frozen_importlib.BuiltinImporter"), .str (Str.ofString "class._frozen_importlib.BuiltinImporter") 185, .ref 14⟩, ⟨PyData.keyHash P (Str.ofString "watched.\x69mport"), .str (Str.ofString "watched.\x69mport") 206, .ref 18⟩, ⟨PyData.keyHash P (Str.ofString "class._frozen_importlib.ModuleSpec"), .str (Str.ofString "class._frozen_importlib.ModuleSpec") 216, .ref 22⟩, ⟨PyData.keyHash P (Str.ofString "sys.modules.booked-epoch"), .str (Str.ofString "sys.modules.booked-epoch") 245, .int 3 0⟩, ⟨PyData.keyHash P (Str.ofString "\x69mport.later-laid._sre"), .str (Str.ofString "\x69mport.later-laid._sre") 270, .bool true⟩, ⟨PyData.keyHash P (Str.ofString "watched.library"), .str (Str.ofString "watched.library") 272, .ref 27⟩, ⟨PyData.keyHash P (Str.ofString "watched.library-objects"), .str (Str.ofString "watched.library-objects") 0, .str (Str.ofString "\x0c") 0⟩, ⟨PyData.keyHash P (Str.ofString "watched.library-deep._sre"), .str (Str.ofString "watched.library-deep._sre") 273, .str (Str.ofString "\x04\x00\x00\x0b\x04\x00\x00\x0b\x04\x00\x00\x03\x04\x00\x00\x0b\x08\x04dict\x02") 0⟩] 9, #[]⟩),
 (3, ⟨.type "dict", none, .dict #[⟨PyData.keyHash P (Str.ofString "__name__"), .str (Str.ofString "__name__") 165, .str (Str.ofString "law_tc0024_03") 602⟩, ⟨PyData.keyHash P (Str.ofString "__doc__"), .str (Str.ofString "__doc__") 166, .none⟩, ⟨PyData.keyHash P (Str.ofString "__package__"), .str (Str.ofString "__package__") 167, .none⟩, ⟨PyData.keyHash P (Str.ofString "__loader__"), .str (Str.ofString "__loader__") 168, .builtin "__main__.__loader__#opaque"⟩, ⟨PyData.keyHash P (Str.ofString "__spec__"), .str (Str.ofString "__spec__") 169, .none⟩, ⟨PyData.keyHash P (Str.ofString "__annotations__"), .str (Str.ofString "__annotations__") 170, .ref 6⟩, ⟨PyData.keyHash P (Str.ofString "__builtins__"), .str (Str.ofString "__builtins__") 171, .ref 4⟩, ⟨PyData.keyHash P (Str.ofString "__file__"), .str (Str.ofString "__file__") 173, .str (Str.ofString "/claim/cut.py") 172⟩, ⟨PyData.keyHash P (Str.ofString "__cached__"), .str (Str.ofString "__cached__") 174, .none⟩, ⟨PyData.keyHash P (Str.ofString "_sre"), .str (Str.ofString "_sre") 275, .ref 12⟩, ⟨PyData.keyHash P (Str.ofString "_wall"), .str (Str.ofString "_wall") 288, .ref 38⟩, ⟨PyData.keyHash P (Str.ofString "_iter_escaped_chars"), .str (Str.ofString "_iter_escaped_chars") 300, .ref 45⟩, ⟨PyData.keyHash P (Str.ofString "_strip_quoted_realnames"), .str (Str.ofString "_strip_quoted_realnames") 312, .ref 52⟩, ⟨PyData.keyHash P (Str.ofString "_check_parenthesis"), .str (Str.ofString "_check_parenthesis") 322, .ref 59⟩, ⟨PyData.keyHash P (Str.ofString "NL"), .str (Str.ofString "NL") 326, .str (Str.ofString "\n") 325⟩, ⟨PyData.keyHash P (Str.ofString "EMPTYSTRING"), .str (Str.ofString "EMPTYSTRING") 328, .str (Str.ofString "") 327⟩, ⟨PyData.keyHash P (Str.ofString "_ValueFormatter"), .str (Str.ofString "_ValueFormatter") 436, .ref 132⟩, ⟨PyData.keyHash P (Str.ofString "_Accumulator"), .str (Str.ofString "_Accumulator") 532, .ref 216⟩, ⟨PyData.keyHash P (Str.ofString "_twin_re_1"), .str (Str.ofString "_twin_re_1") 550, .ref 225⟩, ⟨PyData.keyHash P (Str.ofString "_twin_re_2"), .str (Str.ofString "_twin_re_2") 592, .ref 230⟩, ⟨PyData.keyHash P (Str.ofString "CRLF"), .str (Str.ofString "CRLF") 594, .str (Str.ofString "\r\n") 593⟩, ⟨PyData.keyHash P (Str.ofString "quotedata"), .str (Str.ofString "quotedata") 601, .ref 237⟩, ⟨PyData.keyHash P (Str.ofString "_law_text"), .str (Str.ofString "_law_text") 618, .ref 244⟩, ⟨PyData.keyHash P (Str.ofString "_law_dots"), .str (Str.ofString "_law_dots") 624, .ref 249⟩, ⟨PyData.keyHash P (Str.ofString "_law_kinds"), .str (Str.ofString "_law_kinds") 630, .ref 254⟩, ⟨PyData.keyHash P (Str.ofString "law"), .str (Str.ofString "law") 636, .ref 259⟩] 26, #[]⟩),
 (44, ⟨.type "code", none, .fields #[.str (Str.ofString "_iter_escaped_chars") 291, .str (Str.ofString "_iter_escaped_chars") 292, .str (Str.ofString "/claim/cut.py") 293, .int 6 0, .int 1 0, .int 0 0, .int 0 0, .int 35 0, .ref 39, .bool true, .int 276 0, .ref 40, .none, .ref 41, .ref 42, .ref 43, .int 298 0, .int 6 0, .str (Str.ofString "/claim/cut.py") 299], #[]⟩),
 (45, ⟨.type "function", none, .func fd_iter_escaped_chars, #[]⟩),
 (51, ⟨.type "code", none, .fields #[.str (Str.ofString "_strip_quoted_realnames") 301, .str (Str.ofString "_strip_quoted_realnames") 302, .str (Str.ofString "/claim/cut.py") 303, .int 19 0, .int 1 0, .int 0 0, .int 0 0, .int 3 0, .ref 46, .bool true, .int 276 0, .ref 47, .none, .ref 48, .ref 49, .ref 50, .int 310 0, .int 19 0, .str (Str.ofString "/claim/cut.py") 311], #[]⟩),
 (52, ⟨.type "function", none, .func fd_strip_quoted_realnames, #[]⟩),
 (58, ⟨.type "code", none, .fields #[.str (Str.ofString "_check_parenthesis") 313, .str (Str.ofString "_check_parenthesis") 314, .str (Str.ofString "/claim/cut.py") 315, .int 37 0, .int 1 0, .int 0 0, .int 0 0, .int 3 0, .ref 53, .bool true, .int 276 0, .ref 54, .none, .ref 55, .ref 56, .ref 57, .int 320 0, .int 37 0, .str (Str.ofString "/claim/cut.py") 321], #[]⟩),
 (59, ⟨.type "function", none, .func fd_check_parenthesis, #[]⟩),
 (72, ⟨.type "code", none, .fields #[.str (Str.ofString "__init__") 341, .str (Str.ofString "_ValueFormatter.__init__") 342, .str (Str.ofString "/claim/cut.py") 343, .int 53 0, .int 5 0, .int 0 0, .int 0 0, .int 3 0, .ref 67, .bool true, .int 276 0, .ref 68, .none, .ref 69, .ref 70, .ref 71, .int 349 0, .int 53 0, .str (Str.ofString "/claim/cut.py") 350], #[]⟩),
 (73, ⟨.type "function", none, .func fd_VF_dinit, #[]⟩),
 (79, ⟨.type "code", none, .fields #[.str (Str.ofString "_str") 352, .str (Str.ofString "_ValueFormatter._str") 353, .str (Str.ofString "/claim/cut.py") 354, .int 61 0, .int 2 0, .int 0 0, .int 0 0, .int 3 0, .ref 74, .bool true, .int 276 0, .ref 75, .none, .ref 76, .ref 77, .ref 78, .int 357 0, .int 61 0, .str (Str.ofString "/claim/cut.py") 358], #[]⟩),
 (80, ⟨.type "function", none, .func fd_VF_str, #[]⟩),
 (86, ⟨.type "code", none, .fields #[.str (Str.ofString "__str__") 360, .str (Str.ofString "_ValueFormatter.__str__") 361, .str (Str.ofString "/claim/cut.py") 362, .int 65 0, .int 1 0, .int 0 0, .int 0 0, .int 3 0, .ref 81, .bool true, .int 276 0, .ref 82, .none, .ref 83, .ref 84, .ref 85, .int 364 0, .int 65 0, .str (Str.ofString "/claim/cut.py") 365], #[]⟩),
 (87, ⟨.type "function", none, .func fd_VF_dstr, #[]⟩),
 (93, ⟨.type "code", none, .fields #[.str (Str.ofString "newline") 367, .str (Str.ofString "_ValueFormatter.newline") 368, .str (Str.ofString "/claim/cut.py") 369, .int 68 0, .int 1 0, .int 0 0, .int 0 0, .int 3 0, .ref 88, .bool true, .int 276 0, .ref 89, .none, .ref 90, .ref 91, .ref 92, .int 372 0, .int 68 0, .str (Str.ofString "/claim/cut.py") 373], #[]⟩),
 (94, ⟨.type "function", none, .func fd_VF_newline, #[]⟩),
 (128, ⟨.type "code", none, .fields #[.str (Str.ofString "_append_chunk") 409, .str (Str.ofString "_ValueFormatter._append_chunk") 410, .str (Str.ofString "/claim/cut.py") 411, .int 91 0, .int 3 0, .int 0 0, .int 0 0, .int 3 0, .ref 123, .bool true, .int 276 0, .ref 124, .none, .ref 125, .ref 126, .ref 127, .int 420 0, .int 91 0, .str (Str.ofString "/claim/cut.py") 421], #[]⟩),
 (129, ⟨.type "function", none, .func fd_VF_append_chunk, #[]⟩),
 (131, ⟨.type "dict", none, .dict #[⟨PyData.keyHash P (Str.ofString "__module__"), .str (Str.ofString "__module__") 336, .str (Str.ofString "cpy313.email.header") 323⟩, ⟨PyData.keyHash P (Str.ofString "__firstlineno__"), .str (Str.ofString "__firstlineno__") 340, .int 51 339⟩, ⟨PyData.keyHash P (Str.ofString "__init__"), .str (Str.ofString "__init__") 351, .ref 73⟩, ⟨PyData.keyHash P (Str.ofString "_str"), .str (Str.ofString "_str") 359, .ref 80⟩, ⟨PyData.keyHash P (Str.ofString "__str__"), .str (Str.ofString "__str__") 366, .ref 87⟩, ⟨PyData.keyHash P (Str.ofString "newline"), .str (Str.ofString "newline") 374, .ref 94⟩, ⟨PyData.keyHash P (Str.ofString "add_transition"), .str (Str.ofString "add_transition") 381, .ref 101⟩, ⟨PyData.keyHash P (Str.ofString "feed"), .str (Str.ofString "feed") 391, .ref 108⟩, ⟨PyData.keyHash P (Str.ofString "_maxlengths"), .str (Str.ofString "_maxlengths") 398, .ref 115⟩, ⟨PyData.keyHash P (Str.ofString "_ascii_split"), .str (Str.ofString "_ascii_split") 408, .ref 122⟩, ⟨PyData.keyHash P (Str.ofString "_append_chunk"), .str (Str.ofString "_append_chunk") 422, .ref 129⟩, ⟨PyData.keyHash P (Str.ofString "__static_attributes__"), .str (Str.ofString "__static_attributes__") 429, .ref 130⟩, ⟨PyData.keyHash P (Str.ofString "__dict__"), .str (Str.ofString "__dict__") 431, .ref 133⟩, ⟨PyData.keyHash P (Str.ofString "__weakref__"), .str (Str.ofString "__weakref__") 433, .ref 134⟩, ⟨PyData.keyHash P (Str.ofString "__doc__"), .str (Str.ofString "__doc__") 434, .none⟩] 4, #[]⟩),
 (132, ⟨.type "type", none, .cls { name := (Str.ofString "_ValueFormatter"), bases := [.type "object"], mro := [.ref 132, .type "object"], ns := 131, qualname := (Str.ofString "_ValueFormatter"), hasDict := true, slotNames := [], subclasses := [], abstract := false, collection := none, hasDel := false }, #[none, none, (some (.str (Str.ofString "_ValueFormatter") 329)), (some (.str (Str.ofString "_ValueFormatter") 337)), (some (.builtin "object.__new__")), (some (.bool true))]⟩),
 (140, ⟨.type "cell", none, .cell (some (.ref 216)), #[]⟩),
 (145, ⟨.type "tuple", none, .seq #[.int 0 449] 0, #[]⟩),
 (152, ⟨.type "code", none, .fields #[.str (Str.ofString "__init__") 450, .str (Str.ofString "_Accumulator.__init__") 451, .str (Str.ofString "/claim/cut.py") 452, .int 119 0, .int 2 0, .int 0 0, .int 0 0, .int 3 0, .ref 147, .bool true, .int 276 0, .ref 148, .none, .ref 149, .ref 150, .ref 151, .int 456 0, .int 119 0, .str (Str.ofString "/claim/cut.py") 457], #[]⟩),
 (153, ⟨.type "function", none, .func fd_Acc_dinit, #[]⟩),
 (159, ⟨.type "code", none, .fields #[.str (Str.ofString "push") 459, .str (Str.ofString "_Accumulator.push") 460, .str (Str.ofString "/claim/cut.py") 461, .int 123 0, .int 3 0, .int 0 0, .int 0 0, .int 3 0, .ref 154, .bool true, .int 276 0, .ref 155, .none, .ref 156, .ref 157, .ref 158, .int 465 0, .int 123 0, .str (Str.ofString "/claim/cut.py") 466], #[]⟩),
 (160, ⟨.type "function", none, .func fd_Acc_push, #[]⟩),
 (161, ⟨.type "tuple", none, .seq #[.int 0 468] 0, #[]⟩),
 (167, ⟨.type "code", none, .fields #[.str (Str.ofString "pop_from") 469, .str (Str.ofString "_Accumulator.pop_from") 470, .str (Str.ofString "/claim/cut.py") 471, .int 126 0, .int 2 0, .int 0 0, .int 0 0, .int 3 0, .ref 162, .bool true, .int 276 0, .ref 163, .none, .ref 164, .ref 165, .ref 166, .int 475 0, .int 126 0, .str (Str.ofString "/claim/cut.py") 476], #[]⟩),
 (168, ⟨.type "function", none, .func fd_Acc_pop_from, #[]⟩),
 (175, ⟨.type "code", none, .fields #[.str (Str.ofString "pop") 478, .str (Str.ofString "_Accumulator.pop") 479, .str (Str.ofString "/claim/cut.py") 480, .int 131 0, .int 1 0, .int 0 0, .int 0 0, .int 3 0, .ref 170, .bool true, .int 276 0, .ref 171, .none, .ref 172, .ref 173, .ref 174, .int 483 0, .int 131 0, .str (Str.ofString "/claim/cut.py") 484], #[]⟩),
 (176, ⟨.type "function", none, .func fd_Acc_pop, #[]⟩),
 (182, ⟨.type "code", none, .fields #[.str (Str.ofString "__len__") 486, .str (Str.ofString "_Accumulator.__len__") 487, .str (Str.ofString "/claim/cut.py") 488, .int 136 0, .int 1 0, .int 0 0, .int 0 0, .int 3 0, .ref 177, .bool true, .int 276 0, .ref 178, .none, .ref 179, .ref 180, .ref 181, .int 490 0, .int 136 0, .str (Str.ofString "/claim/cut.py") 491], #[]⟩),
 (183, ⟨.type "function", none, .func fd_Acc_dlen, #[]⟩),
 (189, ⟨.type "code", none, .fields #[.str (Str.ofString "__str__") 493, .str (Str.ofString "_Accumulator.__str__") 494, .str (Str.ofString "/claim/cut.py") 495, .int 139 0, .int 1 0, .int 0 0, .int 0 0, .int 3 0, .ref 184, .bool true, .int 276 0, .ref 185, .none, .ref 186, .ref 187, .ref 188, .int 497 0, .int 139 0, .str (Str.ofString "/claim/cut.py") 498], #[]⟩),
 (190, ⟨.type "function", none, .func fd_Acc_dstr, #[]⟩),
 (191, ⟨.type "tuple", none, .seq #[.none] 0, #[]⟩),
 (197, ⟨.type "code", none, .fields #[.str (Str.ofString "reset") 500, .str (Str.ofString "_Accumulator.reset") 501, .str (Str.ofString "/claim/cut.py") 502, .int 142 0, .int 2 0, .int 0 0, .int 0 0, .int 3 0, .ref 192, .bool true, .int 276 0, .ref 193, .none, .ref 194, .ref 195, .ref 196, .int 505 0, .int 142 0, .str (Str.ofString "/claim/cut.py") 506], #[]⟩),
 (198, ⟨.type "function", none, .func fd_Acc_reset, #[]⟩),
 (204, ⟨.type "code", none, .fields #[.str (Str.ofString "is_onlyws") 508, .str (Str.ofString "_Accumulator.is_onlyws") 509, .str (Str.ofString "/claim/cut.py") 510, .int 148 0, .int 1 0, .int 0 0, .int 0 0, .int 3 0, .ref 199, .bool true, .int 276 0, .ref 200, .none, .ref 201, .ref 202, .ref 203, .int 512 0, .int 148 0, .str (Str.ofString "/claim/cut.py") 513], #[]⟩),
 (205, ⟨.type "function", none, .func fd_Acc_is_onlyws, #[]⟩),
 (212, ⟨.type "code", none, .fields #[.str (Str.ofString "part_count") 515, .str (Str.ofString "_Accumulator.part_count") 516, .str (Str.ofString "/claim/cut.py") 517, .int 151 0, .int 1 0, .int 0 0, .int 0 0, .int 3 0, .ref 207, .bool true, .int 276 0, .ref 208, .none, .ref 209, .ref 210, .ref 211, .int 520 0, .int 151 0, .str (Str.ofString "/claim/cut.py") 521], #[]⟩),
 (213, ⟨.type "function", none, .func fd_Acc_part_count, #[]⟩),
 (215, ⟨.type "dict", none, .dict #[⟨PyData.keyHash P (Str.ofString "__module__"), .str (Str.ofString "__module__") 444, .str (Str.ofString "cpy313.email.header") 323⟩, ⟨PyData.keyHash P (Str.ofString "__firstlineno__"), .str (Str.ofString "__firstlineno__") 448, .int 117 447⟩, ⟨PyData.keyHash P (Str.ofString "__init__"), .str (Str.ofString "__init__") 458, .ref 153⟩, ⟨PyData.keyHash P (Str.ofString "push"), .str (Str.ofString "push") 467, .ref 160⟩, ⟨PyData.keyHash P (Str.ofString "pop_from"), .str (Str.ofString "pop_from") 477, .ref 168⟩, ⟨PyData.keyHash P (Str.ofString "pop"), .str (Str.ofString "pop") 485, .ref 176⟩, ⟨PyData.keyHash P (Str.ofString "__len__"), .str (Str.ofString "__len__") 492, .ref 183⟩, ⟨PyData.keyHash P (Str.ofString "__str__"), .str (Str.ofString "__str__") 499, .ref 190⟩, ⟨PyData.keyHash P (Str.ofString "reset"), .str (Str.ofString "reset") 507, .ref 198⟩, ⟨PyData.keyHash P (Str.ofString "is_onlyws"), .str (Str.ofString "is_onlyws") 514, .ref 205⟩, ⟨PyData.keyHash P (Str.ofString "part_count"), .str (Str.ofString "part_count") 522, .ref 213⟩, ⟨PyData.keyHash P (Str.ofString "__static_attributes__"), .str (Str.ofString "__static_attributes__") 524, .ref 214⟩, ⟨PyData.keyHash P (Str.ofString "__dict__"), .str (Str.ofString "__dict__") 527, .ref 217⟩, ⟨PyData.keyHash P (Str.ofString "__weakref__"), .str (Str.ofString "__weakref__") 529, .ref 218⟩, ⟨PyData.keyHash P (Str.ofString "__doc__"), .str (Str.ofString "__doc__") 530, .none⟩] 5, #[]⟩),
 (216, ⟨.type "type", none, .cls { name := (Str.ofString "_Accumulator"), bases := [.type "list"], mro := [.ref 216, .type "list", .type "object"], ns := 215, qualname := (Str.ofString "_Accumulator"), hasDict := true, slotNames := [], subclasses := [], abstract := false, collection := none, hasDel := false }, #[(some (.ref 137)), none, (some (.str (Str.ofString "_Accumulator") 437)), (some (.str (Str.ofString "_Accumulator") 445)), (some (.builtin "list.__new__")), (some (.bool true))]⟩),
 (224, ⟨.type "tuple", none, .seq #[.int 14 0, .int 4 0, .int 0 0, .int 1 0, .int 1 0, .int 6 0, .int 1 0, .int 16 0, .int 46 0, .int 1 0] 0, #[]⟩),
 (225, ⟨.type "re.Pattern", none, .fields #[.str (Str.ofString "(?m)^\\.") 536, .int 40 549, .int 0 0, .none, .none, .ref 224, .int 0 0], #[]⟩),
 (229, ⟨.type "tuple", none, .seq #[.int 14 0, .int 9 0, .int 4 0, .int 1 0, .int 2 0, .int 16 0, .int 10 0, .int 16 0, .int 13 0, .int 0 0, .int 7 0, .int 7 0, .int 16 0, .int 13 0, .int 16 0, .int 10 0, .int 15 0, .int 18 0, .int 5 0, .int 16 0, .int 10 0, .int 15 0, .int 13 0, .int 11 0, .int 16 0, .int 13 0, .int 5 0, .int 5 0, .int 0 0, .int 16 0, .int 10 0, .int 1 0, .int 15 0, .int 2 0, .int 0 0, .int 1 0] 0, #[]⟩),
 (230, ⟨.type "re.Pattern", none, .fields #[.str (Str.ofString "(?:\\r\\n|\\n|\\r(?!\\n))") 552, .int 32 591, .int 0 0, .none, .none, .ref 229, .int 0 0], #[]⟩),
 (236, ⟨.type "code", none, .fields #[.str (Str.ofString "quotedata") 595, .str (Str.ofString "quotedata") 596, .str (Str.ofString "/claim/cut.py") 597, .int 157 0, .int 1 0, .int 0 0, .int 0 0, .int 3 0, .ref 231, .bool true, .int 276 0, .ref 232, .none, .ref 233, .ref 234, .ref 235, .int 599 0, .int 157 0, .str (Str.ofString "/claim/cut.py") 600], #[]⟩),
 (237, ⟨.type "function", none, .func fd_quotedata, #[]⟩),
 (243, ⟨.type "code", none, .fields #[.str (Str.ofString "_law_text") 604, .str (Str.ofString "_law_text") 605, .str (Str.ofString "/claim/cut.py") 606, .int 160 0, .int 3 0, .int 0 0, .int 0 0, .int 3 0, .ref 238, .bool true, .int 276 0, .ref 239, .none, .ref 240, .ref 241, .ref 242, .int 616 0, .int 160 0, .str (Str.ofString "/claim/cut.py") 617], #[]⟩),
 (244, ⟨.type "function", none, .func fd_law_text, #[]⟩),
 (248, ⟨.type "code", none, .fields #[.str (Str.ofString "_law_dots") 619, .str (Str.ofString "_law_dots") 620, .str (Str.ofString "/claim/cut.py") 621, .int 170 0, .int 1 0, .int 0 0, .int 0 0, .int 3 0, .ref 245, .bool true, .int 276 0, .ref 246, .none, .none, .none, .ref 247, .int 622 0, .int 170 0, .str (Str.ofString "/claim/cut.py") 623], #[]⟩),
 (249, ⟨.type "function", none, .func fd_law_dots, #[]⟩),
 (253, ⟨.type "code", none, .fields #[.str (Str.ofString "_law_kinds") 625, .str (Str.ofString "_law_kinds") 626, .str (Str.ofString "/claim/cut.py") 627, .int 180 0, .int 1 0, .int 0 0, .int 0 0, .int 3 0, .ref 250, .bool true, .int 276 0, .ref 251, .none, .none, .none, .ref 252, .int 628 0, .int 180 0, .str (Str.ofString "/claim/cut.py") 629], #[]⟩),
 (254, ⟨.type "function", none, .func fd_law_kinds, #[]⟩),
 (258, ⟨.type "code", none, .fields #[.str (Str.ofString "law") 631, .str (Str.ofString "law") 632, .str (Str.ofString "/claim/cut.py") 633, .int 189 0, .int 1 0, .int 0 0, .int 0 0, .int 3 0, .ref 255, .bool true, .int 276 0, .ref 256, .none, .none, .none, .ref 257, .int 634 0, .int 189 0, .str (Str.ofString "/claim/cut.py") 635], #[]⟩),
 (259, ⟨.type "function", none, .func fd_law, #[]⟩)]
theorem zaY (P : Params) : (KF P).lookup a_iter_escaped_chars = some ⟨.type "function", none, .func fd_iter_escaped_chars, #[]⟩ := by kernel_rfl
theorem zaQ (P : Params) : codeIn (KF P) fd_iter_escaped_chars.code fd_iter_escaped_chars.qualname = true := by kernel_rfl
theorem zaF (P : Params) : (KF P).lookup a_strip_quoted_realnames = some ⟨.type "function", none, .func fd_strip_quoted_realnames, #[]⟩ := by kernel_rfl
theorem zaH (P : Params) : codeIn (KF P) fd_strip_quoted_realnames.code fd_strip_quoted_realnames.qualname = true := by kernel_rfl
theorem zba (P : Params) : (KF P).lookup a_check_parenthesis = some ⟨.type "function", none, .func fd_check_parenthesis, #[]⟩ := by kernel_rfl
theorem zbb (P : Params) : codeIn (KF P) fd_check_parenthesis.code fd_check_parenthesis.qualname = true := by kernel_rfl
theorem zdN (P : Params) : (KF P).lookup a_VF_dinit = some ⟨.type "function", none, .func fd_VF_dinit, #[]⟩ := by kernel_rfl
theorem zdQ (P : Params) : codeIn (KF P) fd_VF_dinit.code fd_VF_dinit.qualname = true := by kernel_rfl
theorem zf8 (P : Params) : (KF P).lookup a_VF_str = some ⟨.type "function", none, .func fd_VF_str, #[]⟩ := by kernel_rfl
theorem zgK (P : Params) : codeIn (KF P) fd_VF_str.code fd_VF_str.qualname = true := by kernel_rfl
theorem lk_VF_dstr (P : Params) : (KF P).lookup a_VF_dstr = some ⟨.type "function", none, .func fd_VF_dstr, #[]⟩ := by kernel_rfl
theorem cd_VF_dstr (P : Params) : codeIn (KF P) fd_VF_dstr.code fd_VF_dstr.qualname = true := by kernel_rfl
theorem zcR (P : Params) : (KF P).lookup a_VF_newline = some ⟨.type "function", none, .func fd_VF_newline, #[]⟩ := by kernel_rfl
theorem zcL (P : Params) : codeIn (KF P) fd_VF_newline.code fd_VF_newline.qualname = true := by kernel_rfl
theorem zbm (P : Params) : (KF P).lookup a_VF_append_chunk = some ⟨.type "function", none, .func fd_VF_append_chunk, #[]⟩ := by kernel_rfl
theorem zbo (P : Params) : codeIn (KF P) fd_VF_append_chunk.code fd_VF_append_chunk.qualname = true := by kernel_rfl
theorem zbE (P : Params) : (KF P).lookup a_Acc_dinit = some ⟨.type "function", none, .func fd_Acc_dinit, #[]⟩ := by kernel_rfl
theorem zdf (P : Params) : codeIn (KF P) fd_Acc_dinit.code fd_Acc_dinit.qualname = true := by kernel_rfl
theorem zcg (P : Params) : (KF P).lookup a_Acc_push = some ⟨.type "function", none, .func fd_Acc_push, #[]⟩ := by kernel_rfl
theorem zci (P : Params) : codeIn (KF P) fd_Acc_push.code fd_Acc_push.qualname = true := by kernel_rfl
theorem zch (P : Params) : (KF P).lookup a_Acc_pop_from = some ⟨.type "function", none, .func fd_Acc_pop_from, #[]⟩ := by kernel_rfl
theorem zbZ (P : Params) : codeIn (KF P) fd_Acc_pop_from.code fd_Acc_pop_from.qualname = true := by kernel_rfl
theorem zcD (P : Params) : (KF P).lookup a_Acc_pop = some ⟨.type "function", none, .func fd_Acc_pop, #[]⟩ := by kernel_rfl
theorem ze4 (P : Params) : codeIn (KF P) fd_Acc_pop.code fd_Acc_pop.qualname = true := by kernel_rfl
theorem zep (P : Params) : (KF P).lookup a_Acc_dlen = some ⟨.type "function", none, .func fd_Acc_dlen, #[]⟩ := by kernel_rfl
theorem zem (P : Params) : codeIn (KF P) fd_Acc_dlen.code fd_Acc_dlen.qualname = true := by kernel_rfl
theorem zd7 (P : Params) : (KF P).lookup a_Acc_dstr = some ⟨.type "function", none, .func fd_Acc_dstr, #[]⟩ := by kernel_rfl
theorem zeu (P : Params) : codeIn (KF P) fd_Acc_dstr.code fd_Acc_dstr.qualname = true := by kernel_rfl
theorem zbH (P : Params) : (KF P).lookup a_Acc_reset = some ⟨.type "function", none, .func fd_Acc_reset, #[]⟩ := by kernel_rfl
theorem zbI (P : Params) : codeIn (KF P) fd_Acc_reset.code fd_Acc_reset.qualname = true := by kernel_rfl
theorem zbJ (P : Params) : (KF P).lookup a_Acc_is_onlyws = some ⟨.type "function", none, .func fd_Acc_is_onlyws, #[]⟩ := by kernel_rfl
theorem zbL (P : Params) : codeIn (KF P) fd_Acc_is_onlyws.code fd_Acc_is_onlyws.qualname = true := by kernel_rfl
theorem zaK (P : Params) : (KF P).lookup a_Acc_part_count = some ⟨.type "function", none, .func fd_Acc_part_count, #[]⟩ := by kernel_rfl
theorem zbt (P : Params) : codeIn (KF P) fd_Acc_part_count.code fd_Acc_part_count.qualname = true := by kernel_rfl
theorem zdv (P : Params) : (KF P).lookup a_quotedata = some ⟨.type "function", none, .func fd_quotedata, #[]⟩ := by kernel_rfl
theorem zdC (P : Params) : codeIn (KF P) fd_quotedata.code fd_quotedata.qualname = true := by kernel_rfl
theorem zeg (P : Params) : (KF P).lookup a_law_text = some ⟨.type "function", none, .func fd_law_text, #[]⟩ := by kernel_rfl
theorem zd9 (P : Params) : codeIn (KF P) fd_law_text.code fd_law_text.qualname = true := by kernel_rfl
theorem zea (P : Params) : (KF P).lookup a_law_dots = some ⟨.type "function", none, .func fd_law_dots, #[]⟩ := by kernel_rfl
theorem zdY (P : Params) : codeIn (KF P) fd_law_dots.code fd_law_dots.qualname = true := by kernel_rfl
theorem zdq (P : Params) : (KF P).lookup a_law_kinds = some ⟨.type "function", none, .func fd_law_kinds, #[]⟩ := by kernel_rfl
theorem zdF (P : Params) : codeIn (KF P) fd_law_kinds.code fd_law_kinds.qualname = true := by kernel_rfl
theorem lk_law (P : Params) : (KF P).lookup a_law = some ⟨.type "function", none, .func fd_law, #[]⟩ := by kernel_rfl
theorem cd_law (P : Params) : codeIn (KF P) fd_law.code fd_law.qualname = true := by kernel_rfl
noncomputable def qv : Program := { pw with main := { pw.main with body := [stAt 0, stAt 20] } }
noncomputable def lz : List PySem.Str := [Str.ofString "_wall", Str.ofString "_iter_escaped_chars", Str.ofString "_strip_quoted_realnames", Str.ofString "_check_parenthesis", Str.ofString "NL", Str.ofString "EMPTYSTRING", Str.ofString "_ValueFormatter", Str.ofString "_Accumulator", Str.ofString "_twin_re_1", Str.ofString "_twin_re_2", Str.ofString "CRLF", Str.ofString "quotedata", Str.ofString "_law_text", Str.ofString "_law_dots", Str.ofString "_law_kinds"]
noncomputable def kAddrs : List Addr := [2, 3, 44, 45, 51, 52, 58, 59, 72, 73, 79, 80, 86, 87, 93, 94, 128, 129, 131, 132, 140, 145, 152, 153, 159, 160, 161, 167, 168, 175, 176, 182, 183, 189, 190, 191, 197, 198, 204, 205, 212, 213, 215, 216, 224, 225, 229, 230, 236, 237, 243, 244, 248, 249, 253, 254, 258, 259]
noncomputable abbrev C1 : Addr := 182
noncomputable abbrev C2 : Addr := 189
noncomputable abbrev T1 : Addr := 178
noncomputable abbrev T2 : Addr := 185
noncomputable abbrev szTop : Nat := 260
noncomputable def tabOne (h : Heap) (t : Addr) : Bool := (match h.get? t with | some ⟨.none, none, .fields a, sl⟩ => a.size == 0 && sl.size == 0 | _ => false)
noncomputable def tabsIn (s : Shared) : Bool := tabOne s.heap T1 && tabOne s.heap T2
noncomputable def obsv (s : Shared) : List (Option Obj) × Nat × Bool := (kAddrs.map s.heap.get?, s.heap.objs.size, tabsIn s)
noncomputable def valv (w : World) : List (Option Obj) × Nat × Bool := ((KF w.params).map (fun p => some p.2), szTop, true)
theorem left : LeftO pw qv lz (fun s => xlAt qv [] s && recOk (RowW.records (OpenRow.toRowW (OpenLaw.row PySem.Challenge.rw_tc0024_03))) s) obsv valv 4000 := fun w => by kernel_rfl
end Mine
namespace Mine
open PySem PySem.W PySem.W.X PySem.Calls PyProof.Rows
theorem x0_3 {c1 c2 c3 : Prop} {g : Prop} (h : c1 ∧ c2 ∧ c3) (k : c1 → c2 → c3 → g) : g := by obtain ⟨p1, p2, p3⟩ := h; exact k p1 p2 p3
theorem x1_2 {t1 : Sort _} {c1 c2 : t1 → Prop} {g : Prop} (h : ∃ a1, c1 a1 ∧ c2 a1) (k : ∀ a1, c1 a1 → c2 a1 → g) : g := by obtain ⟨a1, p1, p2⟩ := h; exact k a1 p1 p2
theorem x2_1 {t1 : Sort _} {t2 : Sort _} {c1 : t1 → t2 → Prop} {g : Prop} (h : ∃ a1 a2, c1 a1 a2) (k : ∀ a1 a2, c1 a1 a2 → g) : g := by obtain ⟨a1, a2, p1⟩ := h; exact k a1 a2 p1
theorem x0_4 {c1 c2 c3 c4 : Prop} {g : Prop} (h : c1 ∧ c2 ∧ c3 ∧ c4) (k : c1 → c2 → c3 → c4 → g) : g := by obtain ⟨p1, p2, p3, p4⟩ := h; exact k p1 p2 p3 p4
theorem x1_3 {t1 : Sort _} {c1 c2 c3 : t1 → Prop} {g : Prop} (h : ∃ a1, c1 a1 ∧ c2 a1 ∧ c3 a1) (k : ∀ a1, c1 a1 → c2 a1 → c3 a1 → g) : g := by obtain ⟨a1, p1, p2, p3⟩ := h; exact k a1 p1 p2 p3
theorem x2_2 {t1 : Sort _} {t2 : Sort _} {c1 c2 : t1 → t2 → Prop} {g : Prop} (h : ∃ a1 a2, c1 a1 a2 ∧ c2 a1 a2) (k : ∀ a1 a2, c1 a1 a2 → c2 a1 a2 → g) : g := by obtain ⟨a1, a2, p1, p2⟩ := h; exact k a1 a2 p1 p2
theorem x0_5 {c1 c2 c3 c4 c5 : Prop} {g : Prop} (h : c1 ∧ c2 ∧ c3 ∧ c4 ∧ c5) (k : c1 → c2 → c3 → c4 → c5 → g) : g := by obtain ⟨p1, p2, p3, p4, p5⟩ := h; exact k p1 p2 p3 p4 p5
theorem x2_3 {t1 : Sort _} {t2 : Sort _} {c1 c2 c3 : t1 → t2 → Prop} {g : Prop} (h : ∃ a1 a2, c1 a1 a2 ∧ c2 a1 a2 ∧ c3 a1 a2) (k : ∀ a1 a2, c1 a1 a2 → c2 a1 a2 → c3 a1 a2 → g) : g := by obtain ⟨a1, a2, p1, p2, p3⟩ := h; exact k a1 a2 p1 p2 p3
theorem x3_2 {t1 : Sort _} {t2 : Sort _} {t3 : Sort _} {c1 c2 : t1 → t2 → t3 → Prop} {g : Prop} (h : ∃ a1 a2 a3, c1 a1 a2 a3 ∧ c2 a1 a2 a3) (k : ∀ a1 a2 a3, c1 a1 a2 a3 → c2 a1 a2 a3 → g) : g := by obtain ⟨a1, a2, a3, p1, p2⟩ := h; exact k a1 a2 a3 p1 p2
theorem x2_4 {t1 : Sort _} {t2 : Sort _} {c1 c2 c3 c4 : t1 → t2 → Prop} {g : Prop} (h : ∃ a1 a2, c1 a1 a2 ∧ c2 a1 a2 ∧ c3 a1 a2 ∧ c4 a1 a2) (k : ∀ a1 a2, c1 a1 a2 → c2 a1 a2 → c3 a1 a2 → c4 a1 a2 → g) : g := by obtain ⟨a1, a2, p1, p2, p3, p4⟩ := h; exact k a1 a2 p1 p2 p3 p4
theorem x3_3 {t1 : Sort _} {t2 : Sort _} {t3 : Sort _} {c1 c2 c3 : t1 → t2 → t3 → Prop} {g : Prop} (h : ∃ a1 a2 a3, c1 a1 a2 a3 ∧ c2 a1 a2 a3 ∧ c3 a1 a2 a3) (k : ∀ a1 a2 a3, c1 a1 a2 a3 → c2 a1 a2 a3 → c3 a1 a2 a3 → g) : g := by obtain ⟨a1, a2, a3, p1, p2, p3⟩ := h; exact k a1 a2 a3 p1 p2 p3
theorem x4_2 {t1 : Sort _} {t2 : Sort _} {t3 : Sort _} {t4 : Sort _} {c1 c2 : t1 → t2 → t3 → t4 → Prop} {g : Prop} (h : ∃ a1 a2 a3 a4, c1 a1 a2 a3 a4 ∧ c2 a1 a2 a3 a4) (k : ∀ a1 a2 a3 a4, c1 a1 a2 a3 a4 → c2 a1 a2 a3 a4 → g) : g := by obtain ⟨a1, a2, a3, a4, p1, p2⟩ := h; exact k a1 a2 a3 a4 p1 p2
theorem x3_4 {t1 : Sort _} {t2 : Sort _} {t3 : Sort _} {c1 c2 c3 c4 : t1 → t2 → t3 → Prop} {g : Prop} (h : ∃ a1 a2 a3, c1 a1 a2 a3 ∧ c2 a1 a2 a3 ∧ c3 a1 a2 a3 ∧ c4 a1 a2 a3) (k : ∀ a1 a2 a3, c1 a1 a2 a3 → c2 a1 a2 a3 → c3 a1 a2 a3 → c4 a1 a2 a3 → g) : g := by obtain ⟨a1, a2, a3, p1, p2, p3, p4⟩ := h; exact k a1 a2 a3 p1 p2 p3 p4
theorem x2_6 {t1 : Sort _} {t2 : Sort _} {c1 c2 c3 c4 c5 c6 : t1 → t2 → Prop} {g : Prop} (h : ∃ a1 a2, c1 a1 a2 ∧ c2 a1 a2 ∧ c3 a1 a2 ∧ c4 a1 a2 ∧ c5 a1 a2 ∧ c6 a1 a2) (k : ∀ a1 a2, c1 a1 a2 → c2 a1 a2 → c3 a1 a2 → c4 a1 a2 → c5 a1 a2 → c6 a1 a2 → g) : g := by obtain ⟨a1, a2, p1, p2, p3, p4, p5, p6⟩ := h; exact k a1 a2 p1 p2 p3 p4 p5 p6
theorem x4_4 {t1 : Sort _} {t2 : Sort _} {t3 : Sort _} {t4 : Sort _} {c1 c2 c3 c4 : t1 → t2 → t3 → t4 → Prop} {g : Prop} (h : ∃ a1 a2 a3 a4, c1 a1 a2 a3 a4 ∧ c2 a1 a2 a3 a4 ∧ c3 a1 a2 a3 a4 ∧ c4 a1 a2 a3 a4) (k : ∀ a1 a2 a3 a4, c1 a1 a2 a3 a4 → c2 a1 a2 a3 a4 → c3 a1 a2 a3 a4 → c4 a1 a2 a3 a4 → g) : g := by obtain ⟨a1, a2, a3, a4, p1, p2, p3, p4⟩ := h; exact k a1 a2 a3 a4 p1 p2 p3 p4
theorem x3_7 {t1 : Sort _} {t2 : Sort _} {t3 : Sort _} {c1 c2 c3 c4 c5 c6 c7 : t1 → t2 → t3 → Prop} {g : Prop} (h : ∃ a1 a2 a3, c1 a1 a2 a3 ∧ c2 a1 a2 a3 ∧ c3 a1 a2 a3 ∧ c4 a1 a2 a3 ∧ c5 a1 a2 a3 ∧ c6 a1 a2 a3 ∧ c7 a1 a2 a3) (k : ∀ a1 a2 a3, c1 a1 a2 a3 → c2 a1 a2 a3 → c3 a1 a2 a3 → c4 a1 a2 a3 → c5 a1 a2 a3 → c6 a1 a2 a3 → c7 a1 a2 a3 → g) : g := by obtain ⟨a1, a2, a3, p1, p2, p3, p4, p5, p6, p7⟩ := h; exact k a1 a2 a3 p1 p2 p3 p4 p5 p6 p7
theorem x8_4 {t1 : Sort _} {t2 : Sort _} {t3 : Sort _} {t4 : Sort _} {t5 : Sort _} {t6 : Sort _} {t7 : Sort _} {t8 : Sort _} {c1 c2 c3 c4 : t1 → t2 → t3 → t4 → t5 → t6 → t7 → t8 → Prop} {g : Prop} (h : ∃ a1 a2 a3 a4 a5 a6 a7 a8, c1 a1 a2 a3 a4 a5 a6 a7 a8 ∧ c2 a1 a2 a3 a4 a5 a6 a7 a8 ∧ c3 a1 a2 a3 a4 a5 a6 a7 a8 ∧ c4 a1 a2 a3 a4 a5 a6 a7 a8) (k : ∀ a1 a2 a3 a4 a5 a6 a7 a8, c1 a1 a2 a3 a4 a5 a6 a7 a8 → c2 a1 a2 a3 a4 a5 a6 a7 a8 → c3 a1 a2 a3 a4 a5 a6 a7 a8 → c4 a1 a2 a3 a4 a5 a6 a7 a8 → g) : g := by obtain ⟨a1, a2, a3, a4, a5, a6, a7, a8, p1, p2, p3, p4⟩ := h; exact k a1 a2 a3 a4 a5 a6 a7 a8 p1 p2 p3 p4
theorem y1_3 {t1 : Sort _} {c1 c2 c3 : t1 → Prop} {c0 : Prop} {g : Prop} (h : c0 ∧ ∃ a1, c1 a1 ∧ c2 a1 ∧ c3 a1) (k : c0 → ∀ a1, c1 a1 → c2 a1 → c3 a1 → g) : g := by obtain ⟨z, a1, p1, p2, p3⟩ := h; exact k z a1 p1 p2 p3
theorem y2_2 {t1 : Sort _} {t2 : Sort _} {c1 c2 : t1 → t2 → Prop} {c0 : Prop} {g : Prop} (h : c0 ∧ ∃ a1 a2, c1 a1 a2 ∧ c2 a1 a2) (k : c0 → ∀ a1 a2, c1 a1 a2 → c2 a1 a2 → g) : g := by obtain ⟨z, a1, a2, p1, p2⟩ := h; exact k z a1 a2 p1 p2
theorem y3_1 {t1 : Sort _} {t2 : Sort _} {t3 : Sort _} {c1 : t1 → t2 → t3 → Prop} {c0 : Prop} {g : Prop} (h : c0 ∧ ∃ a1 a2 a3, c1 a1 a2 a3) (k : c0 → ∀ a1 a2 a3, c1 a1 a2 a3 → g) : g := by obtain ⟨z, a1, a2, a3, p1⟩ := h; exact k z a1 a2 a3 p1
theorem y2_3 {t1 : Sort _} {t2 : Sort _} {c1 c2 c3 : t1 → t2 → Prop} {c0 : Prop} {g : Prop} (h : c0 ∧ ∃ a1 a2, c1 a1 a2 ∧ c2 a1 a2 ∧ c3 a1 a2) (k : c0 → ∀ a1 a2, c1 a1 a2 → c2 a1 a2 → c3 a1 a2 → g) : g := by obtain ⟨z, a1, a2, p1, p2, p3⟩ := h; exact k z a1 a2 p1 p2 p3
theorem y3_4 {t1 : Sort _} {t2 : Sort _} {t3 : Sort _} {c1 c2 c3 c4 : t1 → t2 → t3 → Prop} {c0 : Prop} {g : Prop} (h : c0 ∧ ∃ a1 a2 a3, c1 a1 a2 a3 ∧ c2 a1 a2 a3 ∧ c3 a1 a2 a3 ∧ c4 a1 a2 a3) (k : c0 → ∀ a1 a2 a3, c1 a1 a2 a3 → c2 a1 a2 a3 → c3 a1 a2 a3 → c4 a1 a2 a3 → g) : g := by obtain ⟨z, a1, a2, a3, p1, p2, p3, p4⟩ := h; exact k z a1 a2 a3 p1 p2 p3 p4
theorem y4_4 {t1 : Sort _} {t2 : Sort _} {t3 : Sort _} {t4 : Sort _} {c1 c2 c3 c4 : t1 → t2 → t3 → t4 → Prop} {c0 : Prop} {g : Prop} (h : c0 ∧ ∃ a1 a2 a3 a4, c1 a1 a2 a3 a4 ∧ c2 a1 a2 a3 a4 ∧ c3 a1 a2 a3 a4 ∧ c4 a1 a2 a3 a4) (k : c0 → ∀ a1 a2 a3 a4, c1 a1 a2 a3 a4 → c2 a1 a2 a3 a4 → c3 a1 a2 a3 a4 → c4 a1 a2 a3 a4 → g) : g := by obtain ⟨z, a1, a2, a3, a4, p1, p2, p3, p4⟩ := h; exact k z a1 a2 a3 a4 p1 p2 p3 p4
theorem y4_5 {t1 : Sort _} {t2 : Sort _} {t3 : Sort _} {t4 : Sort _} {c1 c2 c3 c4 c5 : t1 → t2 → t3 → t4 → Prop} {c0 : Prop} {g : Prop} (h : c0 ∧ ∃ a1 a2 a3 a4, c1 a1 a2 a3 a4 ∧ c2 a1 a2 a3 a4 ∧ c3 a1 a2 a3 a4 ∧ c4 a1 a2 a3 a4 ∧ c5 a1 a2 a3 a4) (k : c0 → ∀ a1 a2 a3 a4, c1 a1 a2 a3 a4 → c2 a1 a2 a3 a4 → c3 a1 a2 a3 a4 → c4 a1 a2 a3 a4 → c5 a1 a2 a3 a4 → g) : g := by obtain ⟨z, a1, a2, a3, a4, p1, p2, p3, p4, p5⟩ := h; exact k z a1 a2 a3 a4 p1 p2 p3 p4 p5
theorem y5_5 {t1 : Sort _} {t2 : Sort _} {t3 : Sort _} {t4 : Sort _} {t5 : Sort _} {c1 c2 c3 c4 c5 : t1 → t2 → t3 → t4 → t5 → Prop} {c0 : Prop} {g : Prop} (h : c0 ∧ ∃ a1 a2 a3 a4 a5, c1 a1 a2 a3 a4 a5 ∧ c2 a1 a2 a3 a4 a5 ∧ c3 a1 a2 a3 a4 a5 ∧ c4 a1 a2 a3 a4 a5 ∧ c5 a1 a2 a3 a4 a5) (k : c0 → ∀ a1 a2 a3 a4 a5, c1 a1 a2 a3 a4 a5 → c2 a1 a2 a3 a4 a5 → c3 a1 a2 a3 a4 a5 → c4 a1 a2 a3 a4 a5 → c5 a1 a2 a3 a4 a5 → g) : g := by obtain ⟨z, a1, a2, a3, a4, a5, p1, p2, p3, p4, p5⟩ := h; exact k z a1 a2 a3 a4 a5 p1 p2 p3 p4 p5
theorem y6_5 {t1 : Sort _} {t2 : Sort _} {t3 : Sort _} {t4 : Sort _} {t5 : Sort _} {t6 : Sort _} {c1 c2 c3 c4 c5 : t1 → t2 → t3 → t4 → t5 → t6 → Prop} {c0 : Prop} {g : Prop} (h : c0 ∧ ∃ a1 a2 a3 a4 a5 a6, c1 a1 a2 a3 a4 a5 a6 ∧ c2 a1 a2 a3 a4 a5 a6 ∧ c3 a1 a2 a3 a4 a5 a6 ∧ c4 a1 a2 a3 a4 a5 a6 ∧ c5 a1 a2 a3 a4 a5 a6) (k : c0 → ∀ a1 a2 a3 a4 a5 a6, c1 a1 a2 a3 a4 a5 a6 → c2 a1 a2 a3 a4 a5 a6 → c3 a1 a2 a3 a4 a5 a6 → c4 a1 a2 a3 a4 a5 a6 → c5 a1 a2 a3 a4 a5 a6 → g) : g := by obtain ⟨z, a1, a2, a3, a4, a5, a6, p1, p2, p3, p4, p5⟩ := h; exact k z a1 a2 a3 a4 a5 a6 p1 p2 p3 p4 p5
theorem y6_6 {t1 : Sort _} {t2 : Sort _} {t3 : Sort _} {t4 : Sort _} {t5 : Sort _} {t6 : Sort _} {c1 c2 c3 c4 c5 c6 : t1 → t2 → t3 → t4 → t5 → t6 → Prop} {c0 : Prop} {g : Prop} (h : c0 ∧ ∃ a1 a2 a3 a4 a5 a6, c1 a1 a2 a3 a4 a5 a6 ∧ c2 a1 a2 a3 a4 a5 a6 ∧ c3 a1 a2 a3 a4 a5 a6 ∧ c4 a1 a2 a3 a4 a5 a6 ∧ c5 a1 a2 a3 a4 a5 a6 ∧ c6 a1 a2 a3 a4 a5 a6) (k : c0 → ∀ a1 a2 a3 a4 a5 a6, c1 a1 a2 a3 a4 a5 a6 → c2 a1 a2 a3 a4 a5 a6 → c3 a1 a2 a3 a4 a5 a6 → c4 a1 a2 a3 a4 a5 a6 → c5 a1 a2 a3 a4 a5 a6 → c6 a1 a2 a3 a4 a5 a6 → g) : g := by obtain ⟨z, a1, a2, a3, a4, a5, a6, p1, p2, p3, p4, p5, p6⟩ := h; exact k z a1 a2 a3 a4 a5 a6 p1 p2 p3 p4 p5 p6
theorem ev_2 {P : Params} : PySem.W.findIn (Mine.KF P) (PySem.Value.ref Mine.a_Acc) (PySem.Str.ofString "__getattribute__") = Option.some (Option.some (PySem.Value.builtin "list.__getattribute__")) := by kernel_rfl
theorem ev_3 {P : Params} : PySem.W.findIn (Mine.KF P) (PySem.Value.ref Mine.a_Acc) (PySem.Str.ofString "__getitem__") = Option.some (Option.some (PySem.Value.builtin "list.__getitem__")) := by kernel_rfl
theorem ev_4 {P : Params} : PySem.W.findIn (Mine.KF P) (PySem.Value.ref Mine.a_Acc) (PySem.Str.ofString "__init__") = Option.some (Option.some (PySem.Value.ref 153)) := by kernel_rfl
theorem ev_5 {P : Params} : PySem.W.findIn (Mine.KF P) (PySem.Value.ref Mine.a_Acc) (PySem.Str.ofString "__iter__") = Option.some (Option.some (PySem.Value.builtin "list.__iter__")) := by kernel_rfl
theorem ev_6 {P : Params} : PySem.W.findIn (Mine.KF P) (PySem.Value.ref Mine.a_Acc) (PySem.Str.ofString "__len__") = Option.some (Option.some (PySem.Value.ref 183)) := by kernel_rfl
theorem ev_7 {P : Params} : PySem.W.findIn (Mine.KF P) (PySem.Value.ref Mine.a_Acc) (PySem.Str.ofString "__setattr__") = Option.some (Option.some (PySem.Value.builtin "object.__setattr__")) := by kernel_rfl
theorem ev_8 {P : Params} : PySem.W.findIn (Mine.KF P) (PySem.Value.ref Mine.a_Acc) (PySem.Str.ofString "__setitem__") = Option.some (Option.some (PySem.Value.builtin "list.__setitem__")) := by kernel_rfl
theorem ev_9 {P : Params} : PySem.W.findIn (Mine.KF P) (PySem.Value.ref Mine.a_Acc) (PySem.Str.ofString "__str__") = Option.some (Option.some (PySem.Value.ref 190)) := by kernel_rfl
theorem ev_11 {P : Params} : PySem.W.findIn (Mine.KF P) (PySem.Value.ref Mine.a_Acc) (PySem.Str.ofString "append") = Option.some (Option.some (PySem.Value.builtin "list.append")) := by kernel_rfl
theorem ev_12 {P : Params} : PySem.W.findIn (Mine.KF P) (PySem.Value.ref Mine.a_Acc) (PySem.Str.ofString "is_onlyws") = Option.some (Option.some (PySem.Value.ref 205)) := by kernel_rfl
theorem ev_13 {P : Params} : PySem.W.findIn (Mine.KF P) (PySem.Value.ref Mine.a_Acc) (PySem.Str.ofString "part_count") = Option.some (Option.some (PySem.Value.ref 213)) := by kernel_rfl
theorem ev_14 {P : Params} : PySem.W.findIn (Mine.KF P) (PySem.Value.ref Mine.a_Acc) (PySem.Str.ofString "pop") = Option.some (Option.some (PySem.Value.ref 176)) := by kernel_rfl
theorem ev_15 {P : Params} : PySem.W.findIn (Mine.KF P) (PySem.Value.ref Mine.a_Acc) (PySem.Str.ofString "pop_from") = Option.some (Option.some (PySem.Value.ref 168)) := by kernel_rfl
theorem ev_16 {P : Params} : PySem.W.findIn (Mine.KF P) (PySem.Value.ref Mine.a_Acc) (PySem.Str.ofString "push") = Option.some (Option.some (PySem.Value.ref 160)) := by kernel_rfl
theorem ev_17 {P : Params} : PySem.W.findIn (Mine.KF P) (PySem.Value.ref Mine.a_Acc) (PySem.Str.ofString "push") = Option.some (Option.some (PySem.Value.ref Mine.a_Acc_push)) := by kernel_rfl
theorem ev_18 {P : Params} : PySem.W.findIn (Mine.KF P) (PySem.Value.ref Mine.a_Acc) (PySem.Str.ofString "reset") = Option.some (Option.some (PySem.Value.ref 198)) := by kernel_rfl
theorem ev_20 {P : Params} : PySem.W.findIn (Mine.KF P) (PySem.Value.ref Mine.a_VF) (PySem.Str.ofString "__getattribute__") = Option.some (Option.some (PySem.Value.builtin "object.__getattribute__")) := by kernel_rfl
theorem ev_21 {P : Params} : PySem.W.findIn (Mine.KF P) (PySem.Value.ref Mine.a_VF) (PySem.Str.ofString "__init__") = Option.some (Option.some (PySem.Value.ref 73)) := by kernel_rfl
theorem ev_22 {P : Params} : PySem.W.findIn (Mine.KF P) (PySem.Value.ref Mine.a_VF) (PySem.Str.ofString "__init__") = Option.some (Option.some (PySem.Value.ref Mine.a_VF_dinit)) := by kernel_rfl
theorem ev_23 {P : Params} : PySem.W.findIn (Mine.KF P) (PySem.Value.ref Mine.a_VF) (PySem.Str.ofString "__setattr__") = Option.some (Option.some (PySem.Value.builtin "object.__setattr__")) := by kernel_rfl
theorem ev_24 {P : Params} : PySem.W.findIn (Mine.KF P) (PySem.Value.ref Mine.a_VF) (PySem.Str.ofString "_append_chunk") = Option.some (Option.some (PySem.Value.ref 129)) := by kernel_rfl
theorem ev_31 {P : Params} : PySem.W.findIn (Mine.KF P) (PySem.Value.ref Mine.a_VF) (PySem.Str.ofString "_str") = Option.some (Option.some (PySem.Value.ref 80)) := by kernel_rfl
theorem ev_32 {P : Params} : PySem.W.findIn (Mine.KF P) (PySem.Value.ref Mine.a_VF) (PySem.Str.ofString "newline") = Option.some (Option.some (PySem.Value.ref 94)) := by kernel_rfl
theorem ev_33 {P : Params} : PySem.W.findIn (Mine.KF P) (PySem.Value.type "list_iterator") (PySem.Str.ofString "__next__") = Option.some (Option.some (PySem.Value.builtin "list_iterator.__next__")) := by kernel_rfl
theorem ev_34 {P : Params} : PySem.W.findIn (Mine.KF P) (PySem.Value.type "method_descriptor") (PySem.Str.ofString "__get__") = Option.some (Option.some (PySem.Value.builtin "method_descriptor.__get__")) := by kernel_rfl
theorem ev_36 {P : Params} : PySem.W.findIn (Mine.KF P) (PySem.Value.type "re.Pattern") (PySem.Str.ofString "__getattribute__") = Option.some (Option.some (PySem.Value.builtin "object.__getattribute__")) := by kernel_rfl
theorem ev_37 {P : Params} : PySem.W.findIn (Mine.KF P) (PySem.Value.type "re.Pattern") (PySem.Str.ofString "sub") = Option.some (Option.some (PySem.Value.builtin "re.Pattern.sub")) := by kernel_rfl
theorem ev_39 {P : Params} : PySem.W.findIn (Mine.KF P) (PySem.Value.type "wrapper_descriptor") (PySem.Str.ofString "__get__") = Option.some (Option.some (PySem.Value.builtin "wrapper_descriptor.__get__")) := by kernel_rfl
theorem ev_41 {P : Params} : PySem.W.nsIn (Mine.KF P) PySem.mainGlobals (PySem.Str.ofString "CRLF") = Option.some (Option.some (PySem.Value.str (PySem.Str.ofString "\x0d\n") 593)) := by kernel_rfl
theorem ev_42 {P : Params} : PySem.W.nsIn (Mine.KF P) PySem.mainGlobals (PySem.Str.ofString "EMPTYSTRING") = Option.some (Option.some (PySem.Value.str (PySem.Str.ofString "") 327)) := by kernel_rfl
theorem ev_43 {P : Params} : PySem.W.nsIn (Mine.KF P) PySem.mainGlobals (PySem.Str.ofString "_Accumulator") = Option.some (Option.some (PySem.Value.ref 216)) := by kernel_rfl
theorem ev_44 {P : Params} : PySem.W.nsIn (Mine.KF P) PySem.mainGlobals (PySem.Str.ofString "_ValueFormatter") = Option.some (Option.some (PySem.Value.ref 132)) := by kernel_rfl
theorem ev_45 {P : Params} : PySem.W.nsIn (Mine.KF P) PySem.mainGlobals (PySem.Str.ofString "_check_parenthesis") = Option.some (Option.some (PySem.Value.ref 59)) := by kernel_rfl
theorem ev_46 {P : Params} : PySem.W.nsIn (Mine.KF P) PySem.mainGlobals (PySem.Str.ofString "_iter_escaped_chars") = Option.some (Option.some (PySem.Value.ref 45)) := by kernel_rfl
theorem ev_51 {P : Params} : PySem.W.nsIn (Mine.KF P) PySem.mainGlobals (PySem.Str.ofString "_strip_quoted_realnames") = Option.some (Option.some (PySem.Value.ref 52)) := by kernel_rfl
theorem ev_52 {P : Params} : PySem.W.nsIn (Mine.KF P) PySem.mainGlobals (PySem.Str.ofString "_twin_re_1") = Option.some (Option.some (PySem.Value.ref 225)) := by kernel_rfl
theorem ev_53 {P : Params} : PySem.W.nsIn (Mine.KF P) PySem.mainGlobals (PySem.Str.ofString "_twin_re_2") = Option.some (Option.some (PySem.Value.ref 230)) := by kernel_rfl
theorem ev_60 {P : Params} : PySem.W.nsIn (Mine.KF P) PySem.mainGlobals (PySem.Str.ofString "quotedata") = Option.some (Option.some (PySem.Value.ref 237)) := by kernel_rfl
theorem ev_66 {P : Params} : PySem.W.ownIn (Mine.KF P) (PySem.Str.ofString "__init__") (PySem.Value.type "list") = Option.some (Option.some (PySem.Value.builtin "list.__init__")) := by kernel_rfl
theorem ev_67 {P : Params} : PySem.W.ownIn (Mine.KF P) (PySem.Str.ofString "__len__") (PySem.Value.type "list") = Option.some (Option.some (PySem.Value.builtin "list.__len__")) := by kernel_rfl
theorem ev_68 {P : Params} : PySem.W.ownIn (Mine.KF P) (PySem.Str.ofString "pop") (PySem.Value.type "list") = Option.some (Option.some (PySem.Value.builtin "list.pop")) := by kernel_rfl
local macro_rules | `(tactic| ktn_no "ev_findIn") => `(tactic| with_reducible first | exact ev_2 | exact ev_3 | exact ev_4 | exact ev_5 | exact ev_6 | exact ev_7 | exact ev_8 | exact ev_9 | exact ev_11 | exact ev_12 | exact ev_13 | exact ev_14 | exact ev_15 | exact ev_16 | exact ev_17 | exact ev_18 | exact ev_20 | exact ev_21 | exact ev_22 | exact ev_23 | exact ev_24 | exact ev_31 | exact ev_32 | exact ev_33 | exact ev_34 | exact ev_36 | exact ev_37 | exact ev_39)
theorem ev_100 {P : Params} : PySem.W.nsIn (Mine.KF P) PySem.mainGlobals (PySem.Str.ofString "_law_text") = Option.some (Option.some (PySem.Value.ref 244)) := by kernel_rfl
theorem ev_101 {P : Params} : PySem.W.nsIn (Mine.KF P) PySem.mainGlobals (PySem.Str.ofString "_law_dots") = Option.some (Option.some (PySem.Value.ref 249)) := by kernel_rfl
theorem ev_102 {P : Params} : PySem.W.nsIn (Mine.KF P) PySem.mainGlobals (PySem.Str.ofString "_law_kinds") = Option.some (Option.some (PySem.Value.ref 254)) := by kernel_rfl
local macro_rules | `(tactic| ktn_no "ev_nsIn") => `(tactic| with_reducible first | exact ev_41 | exact ev_42 | exact ev_43 | exact ev_44 | exact ev_45 | exact ev_46 | exact ev_51 | exact ev_52 | exact ev_53 | exact ev_60 | exact ev_100 | exact ev_101 | exact ev_102)
local macro_rules | `(tactic| ktn_no "ev_ownIn") => `(tactic| with_reducible first | exact ev_66 | exact ev_67 | exact ev_68)
theorem ev_is {α : Type} {a : α} (b : α) (h : a = b) : a = b := h
theorem ev_sp1 {P : Params} {i : Int} {t : Tok} : specialIn (KF P) (.int i t) (PySem.Str.ofString "__index__") = some (some (.builtin "int.__index__")) := by kernel_rfl
theorem ev_sp2 {P : Params} {x : PySem.Str} {t : Tok} : specialIn (KF P) (.str x t) (PySem.Str.ofString "__call__") = some none := by kernel_rfl
theorem ev_sp3 {P : Params} : specialIn (KF P) (.ref a_Acc) (PySem.Str.ofString "__call__") = some (some (.builtin "type.__call__")) := by kernel_rfl
theorem ev_sp4 {P : Params} : specialIn (KF P) (.ref a_Acc_push) (PySem.Str.ofString "__get__") = some (some (.builtin "function.__get__")) := by kernel_rfl
theorem ev_mro {P : Params} : Option.map (fun x => x.mro) (clsIn (KF P) a_Acc) = some [Value.ref a_Acc, Value.type "list", Value.type "object"] := by kernel_rfl
theorem ev_n {α : Type} {a : Option (Option α)} (h : a = some none) : a = some none := h
theorem ev_t {a : Option Bool} (h : a = some true) : a = some true := h
theorem ev_f {a : Option Bool} (h : a = some false) : a = some false := h
theorem ev_ty1 {a : Option Value} (h : a = some (.type "function")) : a = some (.type "function") := h
theorem ev_ty2 {a : Option Value} (h : a = some (.type "wrapper_descriptor")) : a = some (.type "wrapper_descriptor") := h
theorem ev_ty3 {a : Option Value} (h : a = some (.type "method_descriptor")) : a = some (.type "method_descriptor") := h
theorem ev_ty4 {a : Option Value} (h : a = some (.type "type")) : a = some (.type "type") := h
local macro_rules | `(tactic| ktn_no "k_ev") => `(tactic| first
 | kernel_rfl!
 | exact ev_n (by kernel_rfl!) | exact ev_t (by kernel_rfl!) | exact ev_f (by kernel_rfl!) | exact ev_ty1 (by kernel_rfl!) | exact ev_ty2 (by kernel_rfl!) | exact ev_ty3 (by kernel_rfl!) | exact ev_ty4 (by kernel_rfl!)
 | ktn_no "ev_findIn" | ktn_no "ev_nsIn" | ktn_no "ev_ownIn"
 | ((with_reducible show specialIn _ _ _ = _); k_dflt (first | exact ev_sp3 | exact ev_sp4 | exact ev_sp2 | exact ev_sp1))
 | (with_reducible exact ev_mro)
 | ((fail_if_success (with_reducible first | show findIn _ _ _ = _ | show typeIn _ _ = _ | show nsIn _ _ _ = _ | show ownIn _ _ _ = _)); k_dflt rfl))
local macro_rules | `(tactic| ktn_no "no_call") => `(tactic| ((with_reducible show wpAny _ _ _ _ _ _); fail_if_success (with_reducible show wpAny _ _ (call _ _ _) _ _ _)))
theorem ast_ {M : Model} {A : Around} {α β : Type} {f : α → Env → Sem β} {a b : α} {env : Env} {Q : β → Shared → Prop} {E : Value → Shared → Prop} {s : Shared} (e : a = b) (h : wpAny M A (f b env) Q E s) : wpAny M A (f a env) Q E s := by rw [e]; exact h
theorem i_nW {M : Model} {A : Around} {α : Type} {c : Prop} [Decidable c] {a b : Sem α} {Q : α → Shared → Prop} {E : Value → Shared → Prop} {s : Shared} (hc : ¬ c) (h : wpAny M A b Q E s) : wpAny M A (if c then a else b) Q E s := by rw [if_neg hc]; exact h
theorem i_pW {M : Model} {A : Around} {α : Type} {c : Prop} [Decidable c] {a b : Sem α} {Q : α → Shared → Prop} {E : Value → Shared → Prop} {s : Shared} (hc : c) (h : wpAny M A a Q E s) : wpAny M A (if c then a else b) Q E s := by rw [if_pos hc]; exact h
theorem i_nP {c : Prop} [Decidable c] {a b : Prop} (hc : ¬ c) (h : b) : (if c then a else b) := by rw [if_neg hc]; exact h
theorem i_pP {c : Prop} [Decidable c] {a b : Prop} (hc : c) (h : a) : (if c then a else b) := by rw [if_pos hc]; exact h
local macro_rules | `(tactic| ktn_no "iN") => `(tactic| (with_reducible first | refine i_nW ?_ ?_ | refine i_nP ?_ ?_))
local macro_rules | `(tactic| ktn_no "iP") => `(tactic| (with_reducible first | refine i_pW ?_ ?_ | refine i_pP ?_ ?_))
local macro_rules | `(tactic| ktn_no "ast") => `(tactic| (refine ast_ (f := _) (by conv => lhs; whnf) ?_))
local macro_rules | `(tactic| ktn_no "ast_at") => `(tactic| ((with_reducible show _root_.PySem.wpAt _ _ _ _ _ _ _); conv => arg 4; arg 1; whnf))
local macro_rules | `(tactic| ktn_no "ast_seg") => `(tactic| (conv in execs _ _ => arg 1; whnf))
theorem om_lt {a b c : Nat} (h : a < b) (k : Nat.ble b c = true) : a < c := Nat.lt_of_lt_of_le h (Nat.le_of_ble_eq_true k)
theorem om_le {a b c : Nat} (h : a ≤ b) (k : Nat.ble b c = true) : a ≤ c := Nat.le_trans h (Nat.le_of_ble_eq_true k)
theorem om_eq {a b c : Nat} (h : a < b) (k : c = b) : a < c := k ▸ h
theorem om_n3 {n a b c : Nat} (k : Nat.ble (a + b) c = true) : n + a + b ≤ n + c := Nat.add_assoc n a b ▸ Nat.add_le_add_left (Nat.le_of_ble_eq_true k) _
theorem om_k1 {i k n : Nat} (h : i + (k + 1) = n) : i < n := h ▸ Nat.lt_add_of_pos_right (Nat.succ_pos _)
theorem om_k2 {i k n : Nat} (h : i + (k + 1) = n) : i + 1 + k = n := (Nat.succ_add_eq_add_succ i k).trans h
theorem om_g {a b c : Nat} (h : a ≤ b) (k : Nat.ble b c = true) : ¬ a > c := Nat.not_lt_of_le (Nat.le_trans h (Nat.le_of_ble_eq_true k))
theorem om_sl {a b c : Nat} (h : a ≤ b) (k : b ≤ c) : a ≤ c := Nat.le_trans h k
theorem om_el {a b c : Nat} (h : a = b) (k : Nat.ble b c = true) : a ≤ c := h ▸ Nat.le_of_ble_eq_true k
theorem om_ll {a b c d : Nat} (h : a = b) (k : b ≤ c) (e : Nat.ble c d = true) : a ≤ d := h ▸ Nat.le_trans k (Nat.le_of_ble_eq_true e)
theorem om_eq2 {a b c : Nat} (k : c = b) (h : a < b) : a < c := k ▸ h
theorem om_eq3 {a b c : Nat} (k : b = c) (h : a < b) : a < c := k ▸ h
theorem om_e0 {i n : Nat} (h : i + 0 = n) : i = n := h
theorem om_k3 {a b n : Nat} (h : a + (b + 1) ≤ n) : a + b ≤ n := Nat.le_of_succ_le h
theorem om_k4 {a b n : Nat} (h : a + (b + 1) ≤ n) : a + 1 + b ≤ n := Nat.le_trans (Nat.le_of_eq (Nat.succ_add_eq_add_succ a b)) h
theorem om_k5 {a b : Nat} (h : a + 1 ≤ b) : a ≤ b := Nat.le_of_succ_le h
theorem om_k6 {a b : Nat} (h : a < b) : a + 1 ≤ b := h
theorem om_k7 {a b : Nat} (h : a + 1 ≤ b) : a < b := h
theorem om_ne {a b : Nat} (h : a < b) (k : a + 1 ≠ b) : a + 1 < b := Nat.lt_of_le_of_ne h k
theorem om_i {a b : Nat} (h : a ≤ b) {c : Int} (k : (b : Int) < c) : (a : Int) < c := Int.lt_of_le_of_lt (Int.ofNat_le.mpr h) k
theorem om_il {a b : Nat} (h : a < b) {c : Int} (k : (b : Int) < c) : (a : Int) < c := om_i (Nat.le_of_lt h) k
theorem om_ad {a b c : Nat} (k : Nat.ble b c = true) : a + b ≤ a + c := Nat.add_le_add_left (Nat.le_of_ble_eq_true k) _
local macro_rules | `(tactic| ktn_no "le") => `(tactic| first | (with_reducible exact Nat.le_add_right _ _) | exact om_ad rfl | exact Nat.le.intro rfl | exact Nat.le_of_ble_eq_true rfl | lia -abstractProof | omega)
local macro_rules | `(tactic| ktn_no "o2") => `(tactic| with_reducible first | assumption | exact Nat.le_refl _ | exact om_n3 (by decide) | exact om_le (by assumption) (by decide) | exact om_lt (by assumption) (by decide) | exact om_eq2 (by assumption) (by assumption) | exact om_eq3 (by assumption) (by assumption) | exact Nat.not_le_of_gt (by assumption) | exact Nat.le_of_not_lt (by assumption) | exact Nat.lt_of_not_le (by assumption) | exact Nat.not_lt_of_le (by assumption) | exact om_k5 (by assumption) | exact om_k6 (by assumption) | exact om_k7 (by assumption) | exact om_k1 (by assumption) | exact om_k2 (by assumption) | exact om_k3 (by assumption) | exact om_k4 (by assumption) | exact om_g (by assumption) (by decide) | exact om_el (by assumption) (by decide) | exact om_ll (by assumption) (by assumption) (by decide) | exact om_e0 (by assumption) | exact om_sl (by assumption) (by assumption) | exact om_ne (by assumption) (by assumption) | exact Int.natCast_nonneg _ | exact om_i (by assumption) (by decide) | exact om_il (by assumption) (by decide) | exact Nat.lt_of_lt_of_le (by assumption) (by assumption))
local macro_rules | `(tactic| ktn_no "o4") => `(tactic| first | ktn_no "o2" | lia -abstractProof | omega)
local macro_rules | `(tactic| ktn_no "lo") => `(tactic| (first | lia -abstractProof | omega))
local macro_rules | `(tactic| ktn_no "om") => `(tactic| first | exact Nat.le_of_ble_eq_true rfl | (with_reducible first | assumption | exact Nat.le_refl _ | exact Nat.le_add_right _ _) | decide | exact om_ad rfl | exact om_lt (by assumption) rfl | exact om_le (by assumption) rfl | exact om_eq (by assumption) (by assumption) | ktn_no "o2" | lia -abstractProof | omega)
noncomputable def Tab (b : Addr) : Prop := b = T1 ∨ b = T2
structure TabOk (h : Heap) : Prop where
 a : ∃ ps, h.IsCode C1 T1 ps ∧ h.TableAt C1 T1 ps
 b : ∃ ps, h.IsCode C2 T2 ps ∧ h.TableAt C2 T2 ps
structure WfB (w : World) (B : Heap) : Prop where
 k : (KF w.params).In B
 g : ∃ mg, B.Ns mainGlobals mg
 b : ∃ mb, B.Ns builtinsNs mb ∧ ∀ x : PySem.Str, x ≠ "__name__" → mb x = bootBuiltins x
 nl : B.NoLimit
 bm : ∃ mg bm ob, B.Ns mainGlobals mg ∧ mg "__builtins__" = some (.ref bm) ∧ bm ≠ builtinsNs ∧ B.get? bm = some ob ∧ ob.cls = .type "module" ∧ ob.dict = some builtinsNs ∧ ob.data = .plain
 sz : szTop ≤ B.objs.size
 t1 : B.get? T1 = none
 t2 : B.get? T2 = none
structure Rel (s₀ s : Shared) : Prop where
 os : s.os = s₀.os
 gens : ∀ (k : Nat) (x : GenState), s₀.gens[k]? = some x → s.gens[k]? = some x
 bare : (∀ x ∈ s₀.gens, x.bare = true) → ∀ x ∈ s.gens, x.bare = true
 tg : ∀ t, Tab t → ∀ ps, s₀.heap.get? t = some (tableObj ps) → ∃ more, s.heap.get? t = some (tableObj (ps ++ more))
 sz : True
theorem Rel.refl (s : Shared) : Rel s s := ⟨rfl, fun _ _ e => e, id, fun _ _ ps e => ⟨#[], by simpa using e⟩, trivial⟩
theorem Rel.trans {a b c : Shared} (x : Rel a b) (y : Rel b c) : Rel a c :=
 ⟨y.os.trans x.os, fun k g e => y.gens k g (x.gens k g e), fun h => y.bare (x.bare h), fun t ht ps e => by
  obtain ⟨m1, e1⟩ := x.tg t ht ps e
  obtain ⟨m2, e2⟩ := y.tg t ht _ e1
  exact ⟨m1 ++ m2, by rw [← Array.append_assoc]; exact e2⟩, trivial⟩
theorem Rel.heap {s₀ s : Shared} (x : Rel s₀ s) {h' : Heap} {tk : Nat} (hz : s.heap.objs.size ≤ h'.objs.size) (ht : ∀ t, Tab t → ∀ o, s.heap.get? t = some o → h'.get? t = some o) : Rel s₀ { s with heap := h', toks := tk } :=
 ⟨x.os, x.gens, x.bare, fun t q ps e => by obtain ⟨m, e'⟩ := x.tg t q ps e; exact ⟨m, ht t q _ e'⟩, (let _ := hz; trivial)⟩
theorem TabOk.keeps {h h' : Heap} (x : TabOk h) (k : ∀ b o, h.get? b = some o → h'.get? b = some o) : TabOk h' :=
 ⟨let ⟨ps, a, b⟩ := x.a; ⟨ps, a.keeps k, b.keeps k⟩, let ⟨ps, a, b⟩ := x.b; ⟨ps, a.keeps k, b.keeps k⟩⟩
theorem TabOk.same {h h' : Heap} {a : Addr} (x : TabOk h) (hs : Heap.SameBut a h h') (ha : szTop ≤ a) : TabOk h' := by
 have n : ∀ c : Addr, c < szTop → c ≠ a := fun c hc e => by subst e; exact absurd hc (Nat.not_lt.mpr ha)
 exact ⟨let ⟨ps, p, q⟩ := x.a; ⟨ps, p.sameBut hs (n _ (by decide)) (n _ (by decide)), q.sameBut hs (n _ (by decide)) (n _ (by decide))⟩,
  let ⟨ps, p, q⟩ := x.b; ⟨ps, p.sameBut hs (n _ (by decide)) (n _ (by decide)), q.sameBut hs (n _ (by decide)) (n _ (by decide))⟩⟩
structure Fm (w : World) (B : Heap) (L : Addr) (cl : List (PySem.Str × Addr)) (s₀ : Shared) (m : PySem.Str → Option Value) (cm : PySem.Str → Option Value) (news : List (Addr × Obj)) (s : Shared) : Prop where
 wf : WfB w B
 ns : s.heap.Ns L m
 keep : ∀ b o, B.get? b = some o → s.heap.get? b = some o
 above : B.get? L = none ∧ szTop ≤ L
 nw : ∀ p ∈ news, s.heap.get? p.1 = some p.2 ∧ p.1 ≠ L ∧ B.get? p.1 = none ∧ szTop ≤ p.1
 nd : (news.map (·.1)).Nodup
 ce : ∀ n c, cl.lookup n = some c → s.heap.IsCell c (cm n)
 cd : ∀ n c, cl.lookup n = some c → c ≠ L ∧ c ∉ news.map (·.1) ∧ ¬ Tab c
 cp : ∀ n n' c, cl.lookup n = some c → cl.lookup n' = some c → n = n'
 tb : TabOk s.heap
 rl : Rel s₀ s
section
variable {w : World} {B : Heap} {L : Addr} {m : PySem.Str → Option Value} {cl : List (PySem.Str × Addr)} {cm : PySem.Str → Option Value} {news : List (Addr × Obj)} {s₀ s : Shared}
theorem Fm.szL (F : Fm w B L cl s₀ m cm news s) : szTop ≤ L := F.above.2
theorem Fm.K (F : Fm w B L cl s₀ m cm news s) : (KF w.params).In s.heap := fun a o e => F.keep a o (F.wf.k a o e)
theorem Fm.at (F : Fm w B L cl s₀ m cm news s) (i : Nat) {x : Addr} {o : Obj} (e : news[i]? = some (x, o)) : s.heap.get? x = some o := (F.nw _ (List.mem_of_getElem? e)).1
theorem tab_lt {t : Addr} (h : Tab t) : t < szTop := by rcases h with rfl | rfl <;> decide
theorem Fm.grow (F : Fm w B L cl s₀ m cm news s) {h' : Heap} {tk : Nat} (k : ∀ b o, s.heap.get? b = some o → h'.get? b = some o) (hz : s.heap.objs.size ≤ h'.objs.size) : Fm w B L cl s₀ m cm news { s with heap := h', toks := tk } where
 wf := F.wf
 ns := F.ns.keeps k
 keep := fun b o e => k b o (F.keep b o e)
 above := F.above
 nw := fun p hp => let ⟨a, r⟩ := F.nw p hp; ⟨k _ _ a, r⟩
 nd := F.nd
 ce := fun n c e => (F.ce n c e).keeps k
 cd := F.cd
 cp := F.cp
 tb := F.tb.keeps k
 rl := F.rl.heap hz fun t _ o e => k t o e
theorem Fm.withD {h : Heap} {g : Array GenState} {d d₀ : Drawn} {tk tk₀ : Nat} {os : OsState} (F : Fm w B L cl s₀ m cm news ⟨h, g, d₀, tk₀, os⟩) : Fm w B L cl s₀ m cm news ⟨h, g, d, tk, os⟩ := ⟨F.wf, F.ns, F.keep, F.above, F.nw, F.nd, F.ce, F.cd, F.cp, F.tb, ⟨F.rl.os, F.rl.gens, F.rl.bare, F.rl.tg, F.rl.sz⟩⟩
theorem Fm.toks (F : Fm w B L cl s₀ m cm news s) (tk : Nat) : Fm w B L cl s₀ m cm news { s with toks := tk } := F.grow (h' := s.heap) (fun _ _ e => e) (Nat.le_refl _)
theorem Fm.push (F : Fm w B L cl s₀ m cm news s) (o : Obj) (hf : o.isFreed = false := by rfl) {tk : Nat} : Fm w B L cl s₀ m cm ((s.heap.objs.size, o) :: news) { s with heap := s.heap.push o, toks := tk } := by
 have G := F.grow (h' := s.heap.push o) (tk := tk) (fun b ob e => Heap.get?_push_of_some _ e) (by rw [Heap.size_push]; exact Nat.le_succ _)
 have lt : ∀ {a ob}, s.heap.get? a = some ob → a ≠ s.heap.objs.size := fun e q => absurd (Heap.lt_size e) (by rw [q]; exact Nat.lt_irrefl _)
 (refine x3_2 (F.ns) ?_; intro oL es ep hL _)
 refine { G with nw := fun p hp => ?_, nd := ?_, cd := fun n c hm => ?_ }
 ·rcases List.mem_cons.mp hp with rfl | hp
  ·refine ⟨Heap.get?_push_size _ hf, fun e => lt hL e.symm, ?_, Nat.le_trans F.szL (Nat.le_of_lt (Heap.lt_size hL))⟩
   cases q : B.get? s.heap.objs.size with
   | none => rfl
   | some o' => exact absurd rfl (lt (F.keep _ _ q))
  ·exact G.nw p hp
 ·refine List.nodup_cons.mpr ⟨fun q => ?_, F.nd⟩
  (refine x1_2 (List.mem_map.mp q) ?_; intro p hp e)
  exact lt (F.nw p hp).1 e
 ·(refine x0_3 (F.cd n c hm) ?_; intro a b c')
  refine ⟨a, fun q => ?_, c'⟩
  rcases List.mem_cons.mp q with e | q
  ·(refine x1_2 (F.ce n c hm) ?_; intro oc hoc _)
   exact lt hoc e
  ·exact b q
theorem Fm.set (F : Fm w B L cl s₀ m cm news s) {i : Nat} {x : Addr} {o o' : Obj} (hi : news[i]? = some (x, o)) {h' : Heap} (hs : Heap.SameBut x s.heap h') (ho : h'.get? x = some o') {tk : Nat} : Fm w B L cl s₀ m cm (news.set i (x, o')) { s with heap := h', toks := tk } := by
 have hm := List.mem_of_getElem? hi
 (refine x0_4 (F.nw _ hm) ?_; intro hx hxL hxB hxs)
 have hlt : i < news.length := (List.getElem?_eq_some_iff.mp hi).1
 have nt : ∀ t, Tab t → t ≠ x := fun t ht e => absurd (tab_lt ht) (by rw [e]; exact Nat.not_lt.mpr hxs)
 have hmap : (news.set i (x, o')).map (·.1) = news.map (·.1) := by
  rw [List.map_set]
  apply List.ext_getElem?
  intro j
  rw [List.getElem?_set]
  split
  ·rename_i hj
   subst hj
   rw [List.length_map, if_pos hlt, List.getElem?_map, hi]; rfl
  ·rfl
 have hne : ∀ (j : Nat) (p : Addr × Obj), j ≠ i → news[j]? = some p → p.1 ≠ x := fun j p hj hp e => by
  have h1 : (news.map (·.1))[j]? = some x := by rw [List.getElem?_map, hp, ← e]; rfl
  have h2 : (news.map (·.1))[i]? = some x := by rw [List.getElem?_map, hi]; rfl
  have hjl : j < (news.map (·.1)).length := (List.getElem?_eq_some_iff.mp h1).1
  exact hj ((List.getElem?_inj hjl F.nd).mp (h1.trans h2.symm))
 refine { wf := F.wf, ns := F.ns.sameBut hs hxL.symm, keep := fun b o e => (hs.2 b (fun q => by rw [q, hxB] at e; cases e)).trans (F.keep b o e), above := F.above, nw := fun p hp => ?_, nd := by rw [hmap]; exact F.nd, ce := fun n c e => (F.ce n c e).sameBut hs (fun q => (F.cd n c e).2.1 (by rw [q]; exact List.mem_map_of_mem hm)), cd := fun n c e => by rw [hmap]; exact F.cd n c e, cp := F.cp, tb := F.tb.same hs hxs, rl := F.rl.heap (Nat.le_of_eq hs.1.symm) fun t ht o e => (hs.2 t (nt t ht)).trans e }
 obtain ⟨j, hj⟩ := List.getElem?_of_mem hp
 rw [List.getElem?_set] at hj
 split at hj
 ·cases hj
  exact ⟨ho, hxL, hxB, hxs⟩
 ·rename_i hij
  obtain ⟨a, b⟩ := F.nw p (List.mem_of_getElem? hj)
  exact ⟨(hs.2 _ (hne j p (Ne.symm hij) hj)).trans a, b⟩
theorem Fm.ne (F : Fm w B L cl s₀ m cm news s) {i j : Nat} {a b : Addr} {oa ob : Obj} (hi : news[i]? = some (a, oa)) (hj : news[j]? = some (b, ob)) (h : i ≠ j) : a ≠ b := fun e => by
 have h1 : (news.map (·.1))[i]? = some b := by rw [List.getElem?_map, hi, ← e]; rfl
 have h2 : (news.map (·.1))[j]? = some b := by rw [List.getElem?_map, hj]; rfl
 exact h ((List.getElem?_inj (List.getElem?_eq_some_iff.mp h1).1 F.nd).mp (h1.trans h2.symm))
theorem Fm.store (F : Fm w B L cl s₀ m cm news s) {h' : Heap} {m' : PySem.Str → Option Value} (hn : h'.Ns L m') (hs : Heap.SameBut L s.heap h') {tk : Nat} : Fm w B L cl s₀ m' cm news { s with heap := h', toks := tk } := by
 have hsz := F.szL
 refine { wf := F.wf, ns := hn, keep := fun b o e => (hs.2 b (fun q => by rw [q, F.above.1] at e; cases e)).trans (F.keep b o e), above := F.above, nw := fun p hp => ?_, nd := F.nd, ce := fun n c e => (F.ce n c e).sameBut hs (F.cd n c e).1, cd := F.cd, cp := F.cp, tb := F.tb.same hs hsz, rl := F.rl.heap (Nat.le_of_eq hs.1.symm) fun t ht o e => (hs.2 t fun q => absurd (tab_lt ht) (by rw [q]; exact Nat.not_lt.mpr hsz)).trans e }
 (refine x0_3 (F.nw p hp) ?_; intro a b c)
 exact ⟨(hs.2 _ b).trans a, b, c⟩
theorem Fm.storeC (F : Fm w B L cl s₀ m cm news s) {h' : Heap} {n : PySem.Str} {c : Addr} {v : Value} (hc : cl.lookup n = some c) (hB : B.get? c = none) (hv : h'.IsCell c (some v)) (hs : Heap.SameBut c s.heap h') (hz : szTop ≤ c) {tk : Nat} :
  Fm w B L cl s₀ m (fun y => if y = n then some v else cm y) news { s with heap := h', toks := tk } := by
 (refine x0_3 (F.cd n c hc) ?_; intro cL cn cT)
 refine { wf := F.wf, ns := F.ns.sameBut hs cL.symm, keep := fun b o e => (hs.2 b (fun q => by rw [q, hB] at e; cases e)).trans (F.keep b o e), above := F.above, nw := fun p hp => ?_, nd := F.nd, ce := fun n' c' e => ?_, cd := F.cd, cp := F.cp, tb := F.tb.same hs hz, rl := F.rl.heap (Nat.le_of_eq hs.1.symm) fun t ht o e => (hs.2 t fun q => cT (q ▸ ht)).trans e }
 ·obtain ⟨a, b⟩ := F.nw p hp
  exact ⟨(hs.2 _ (fun q => cn (by rw [← q]; exact List.mem_map_of_mem hp))).trans a, b⟩
 ·by_cases hn : n' = n
  ·subst hn
   rw [hc] at e; cases e
   simpa using hv
  ·rw [if_neg hn]
   exact (F.ce n' c' e).sameBut hs fun q => hn (F.cp n' n c (q ▸ e) hc)
theorem Fm.moved (F : Fm w B L cl s₀ m cm news s) {s' : Shared} (k : ∀ b o, ¬ Tab b → s.heap.get? b = some o → s'.heap.get? b = some o) (tb : TabOk s'.heap) (rl : Rel s s') : Fm w B L cl s₀ m cm news s' where
 wf := F.wf
 ns := by
  (refine x3_2 (F.ns) ?_; intro oL es ep hL r)
  exact ⟨oL, es, ep, k _ _ (fun t => absurd (tab_lt t) (Nat.not_lt.mpr F.szL)) hL, r⟩
 keep := fun b o e => k b o (fun t => by rcases t with rfl | rfl; (rw [F.wf.t1] at e; cases e); (rw [F.wf.t2] at e; cases e)) (F.keep b o e)
 above := F.above
 nw := fun p hp => let ⟨a, b, c, d⟩ := F.nw p hp; ⟨k _ _ (fun t => absurd (tab_lt t) (Nat.not_lt.mpr d)) a, b, c, d⟩
 nd := F.nd
 ce := fun n c e => let ⟨oc, hoc, hd⟩ := F.ce n c e; ⟨oc, k _ _ (F.cd n c e).2.2 hoc, hd⟩
 cd := F.cd
 cp := F.cp
 tb := tb
 rl := F.rl.trans rl
theorem Fm.sub (F : Fm w B L cl s₀ m cm news s) {news' : List (Addr × Obj)} (h : news'.Sublist news) : Fm w B L cl s₀ m cm news' s :=
 { F with nw := fun p hp => F.nw p (h.subset hp), nd := F.nd.sublist (h.map _), cd := fun n c e => let ⟨a, b, d⟩ := F.cd n c e; ⟨a, fun q => b ((h.map _).subset q), d⟩ }
theorem Fm.drop (F : Fm w B L cl s₀ m cm news s) (n : Nat) : Fm w B L cl s₀ m cm (news.drop n) s := F.sub (List.drop_sublist n news)
theorem Fm.erase (F : Fm w B L cl s₀ m cm news s) (i : Nat) : Fm w B L cl s₀ m cm (news.eraseIdx i) s := F.sub (List.eraseIdx_sublist news i)
noncomputable def under (s : Shared) (news : List (Addr × Obj)) : Heap := hideAll s.heap (T1 :: T2 :: news.map (·.1))
theorem Fm.under_keep (F : Fm w B L cl s₀ m cm news s) : ∀ b o, B.get? b = some o → (under s news).get? b = some o := fun b o e => by
 refine hideAll_get _ (F.keep b o e) fun q => ?_
 rcases List.mem_cons.mp q with q | q
 ·rw [q, F.wf.t1] at e; cases e
 rcases List.mem_cons.mp q with q | q
 ·rw [q, F.wf.t2] at e; cases e
 (refine x1_2 (List.mem_map.mp q) ?_; intro p hp e')
 have := (F.nw p hp).2.2.1
 rw [e', e] at this; cases this
theorem Fm.wf_under (F : Fm w B L cl s₀ m cm news s) : WfB w (under s news) where
 k := fun a o e => F.under_keep a o (F.wf.k a o e)
 g := F.wf.g.elim fun mg h => ⟨mg, h.keeps F.under_keep⟩
 b := F.wf.b.elim fun mb h => ⟨mb, h.1.keeps F.under_keep, h.2⟩
 nl := F.wf.nl.keeps F.under_keep
 bm := by
  obtain ⟨mg, bm, ob, a, b, c, d, e⟩ := F.wf.bm
  exact ⟨mg, bm, ob, a.keeps F.under_keep, b, c, F.under_keep _ _ d, e⟩
 sz := by
  show szTop ≤ (hideAll s.heap _).objs.size
  rw [hideAll_size]
  (refine x3_2 (F.ns) ?_; intro oL es ep hL _)
  exact Nat.le_trans F.szL (Nat.le_of_lt (Heap.lt_size hL))
 t1 := hideAll_none _ (.head _)
 t2 := hideAll_none _ (.tail _ (.head _))
theorem tab_ne {t b : Addr} (h : Tab t) (hb : szTop ≤ b) : b ≠ t := fun e => absurd (tab_lt h) (by rw [← e]; exact Nat.not_lt.mpr hb)
theorem Fm.under_L (F : Fm w B L cl s₀ m cm news s) {o : Obj} (e : s.heap.get? L = some o) : (under s news).get? L = some o := by
 refine hideAll_get _ e fun q => ?_
 rcases List.mem_cons.mp q with q | q
 ·exact tab_ne (.inl rfl) F.szL q
 rcases List.mem_cons.mp q with q | q
 ·exact tab_ne (.inr rfl) F.szL q
 (refine x1_2 (List.mem_map.mp q) ?_; intro p hp e')
 exact (F.nw p hp).2.1 e'
theorem Fm.under_cell (F : Fm w B L cl s₀ m cm news s) {n : PySem.Str} {c : Addr} (hc : cl.lookup n = some c) {o : Obj} (e : s.heap.get? c = some o) : (under s news).get? c = some o := by
 (refine x0_3 (F.cd n c hc) ?_; intro _ cn cT)
 refine hideAll_get _ e fun q => ?_
 rcases List.mem_cons.mp q with q | q
 ·exact cT (.inl q)
 rcases List.mem_cons.mp q with q | q
 ·exact cT (.inr q)
 ·exact cn q
theorem Fm.leave (F : Fm w B L cl s₀ m cm news s) {L' : Addr} {m' cm' : PySem.Str → Option Value} {cl' : List (PySem.Str × Addr)} {news' : List (Addr × Obj)} {s' : Shared} (G : Fm w (under s news) L' cl' s m' cm' news' s') : Fm w B L cl s₀ m cm news' s' := by
 (refine x3_2 (F.ns) ?_; intro oL es ep hL r)
 have kL := F.under_L hL
 refine { wf := F.wf, ns := ⟨oL, es, ep, G.keep _ _ kL, r⟩, keep := fun b o e => G.keep b o (F.under_keep b o e), above := F.above, nw := fun p hp => ?_, nd := G.nd, ce := fun n c e => ?_, cd := fun n c e => ?_, cp := F.cp, tb := G.tb, rl := F.rl.trans G.rl }
 ·(refine x0_4 (G.nw p hp) ?_; intro a b c d)
  refine ⟨a, fun q => ?_, ?_, d⟩
  ·rw [q, kL] at c; cases c
  ·cases q : B.get? p.1 with
   | none => rfl
   | some o => rw [F.under_keep _ _ q] at c; cases c
 ·(refine x1_2 (F.ce n c e) ?_; intro oc hoc hd)
  exact ⟨oc, G.keep _ _ (F.under_cell e hoc), hd⟩
 ·(refine x1_2 (F.ce n c e) ?_; intro oc hoc hd)
  refine ⟨(F.cd n c e).1, fun q => ?_, (F.cd n c e).2.2⟩
  (refine x1_2 (List.mem_map.mp q) ?_; intro p hp e')
  have := (G.nw p hp).2.2.1
  rw [e', F.under_cell e hoc] at this; cases this
theorem Fm.enter (F : Fm w B L cl s₀ m cm news s) {L' : Addr} {m' cm' : PySem.Str → Option Value} {cl' : List (PySem.Str × Addr)} {h₁ : Heap} {tk : Nat} (hL : L' = s.heap.objs.size) (hns : h₁.Ns L' m') (hk : ∀ b o, s.heap.get? b = some o → h₁.get? b = some o) (hz : s.heap.objs.size ≤ h₁.objs.size)
  (ce : ∀ n c, cl'.lookup n = some c → h₁.IsCell c (cm' n)) (cd : ∀ n c, cl'.lookup n = some c → c ≠ L' ∧ c ∉ news.map (·.1) ∧ ¬ Tab c) (cp : ∀ n n' c, cl'.lookup n = some c → cl'.lookup n' = some c → n = n') :
  Fm w (under s news) L' cl' s m' cm' news { s with heap := h₁, toks := tk } where
 wf := F.wf_under
 ns := hns
 keep := fun b o e => hk b o (of_hideAll _ e)
 above := by
  refine ⟨?_, by rw [hL]; exact Nat.le_trans F.szL (Nat.le_of_lt F.ns.lt)⟩
  cases q : (under s news).get? L' with
  | none => rfl
  | some o => exact absurd (Heap.lt_size q) (by rw [hL]; show ¬ s.heap.objs.size < (hideAll s.heap _).objs.size; rw [hideAll_size]; exact Nat.lt_irrefl _)
 nw := fun p hp => let ⟨a, b, c, d⟩ := F.nw p hp; ⟨hk _ _ a, by rw [hL]; exact Nat.ne_of_lt (Heap.lt_size a), hideAll_none _ (.tail _ (.tail _ (List.mem_map_of_mem hp))), d⟩
 nd := F.nd
 ce := ce
 cd := cd
 cp := cp
 tb := F.tb.keeps hk
 rl := (Rel.refl s).heap hz fun t _ o e => hk t o e
end
structure Room (n : Nat) (A : Around) : Prop where
 handled : A.handled = none
 depth : A.depth + n ≤ 800
 units : A.units + 50 * n ≤ 9000
 frames : ∃ l, A.frames = some l
theorem rm_u {a n k : Nat} (hk : k ≤ 50) (h : a + 50 * (n + 1) ≤ 9000) : a + k + 50 * n ≤ 9000 := by rw [Nat.add_assoc, Nat.add_comm k]; exact Nat.le_trans (Nat.add_le_add_left (Nat.add_le_add_left hk _) a) h
theorem Room.deeper {n : Nat} {A : Around} {env : Env} (R : Room (n + 1) A) : Room n (A.deeper env) :=
 ⟨R.handled, (Nat.add_right_comm A.depth 1 n).symm ▸ R.depth, rm_u (by decide) R.units, let ⟨l, h⟩ := R.frames; ⟨env :: l, by show A.frames.map _ = _; rw [h]; rfl⟩⟩
theorem Room.less {n k : Nat} {A : Around} (R : Room n A) (h : k ≤ n) : Room k A := ⟨R.handled, Nat.le_trans (Nat.add_le_add_left h _) R.depth, Nat.le_trans (Nat.add_le_add_left (Nat.mul_le_mul_left 50 h) _) R.units, R.frames⟩
theorem Room.in1 {n : Nat} {A : Around} (R : Room (n + 1) A) : Room n A.in1 := ⟨R.handled, Nat.le_of_succ_le R.depth, rm_u (by decide) R.units, R.frames⟩
theorem Room.lt {n : Nat} {A : Around} (R : Room n A) : A.depth < recursionLimit := Nat.lt_of_le_of_lt (Nat.le_trans (Nat.le_add_right _ n) R.depth) (by decide)
theorem Room.cl {n : Nat} {A : Around} (R : Room n A) : A.units < cLine := Nat.lt_of_le_of_lt (Nat.le_trans (Nat.le_add_right _ (50 * n)) R.units) (by decide)
noncomputable abbrev M (w : World) : Model := model pw w
noncomputable abbrev bnd (binds : List (PySem.Str × Value)) : PySem.Str → Option Value := fun x => binds.reverse.lookup x
noncomputable def Back (w : World) (B : Heap) (L : Addr) (m : PySem.Str → Option Value) (cl : List (PySem.Str × Addr)) (cm : PySem.Str → Option Value) (news : List (Addr × Obj)) (s₀ s : Shared) (Q : Value → Shared → Prop) (v : Value) (s' : Shared) : Prop :=
 ∃ L' m' cl' cm' news', Fm w (under s news) L' cl' s m' cm' news' s' ∧ (Fm w B L cl s₀ m cm news' s' → Q v s')
section
variable {w : World} {B : Heap} {L : Addr} {m : PySem.Str → Option Value} {cl : List (PySem.Str × Addr)} {cm : PySem.Str → Option Value} {news : List (Addr × Obj)} {s₀ s : Shared} {A : Around} {E : Value → Shared → Prop} {Q : Value → Shared → Prop}
theorem Back.go (F : Fm w B L cl s₀ m cm news s) {v : Value} {s' : Shared} (h : Back w B L m cl cm news s₀ s Q v s') : Q v s' := by
 obtain ⟨_, _, _, _, _, G, k⟩ := h
 exact k (F.leave G)
theorem Back.of {L' : Addr} {m' cm' : PySem.Str → Option Value} {cl' : List (PySem.Str × Addr)} {news' : List (Addr × Obj)} {v : Value} {s' : Shared} (G : Fm w (under s news) L' cl' s m' cm' news' s') (k : Fm w B L cl s₀ m cm news' s' → Q v s') : Back w B L m cl cm news s₀ s Q v s' := ⟨L', m', cl', cm', news', G, k⟩
noncomputable def retV : Flow → Value
 | .ret v => v
 | _ => .none
theorem zam {n : Nat} {f : Addr} {oc : Value} {od : Option Addr} {osl : Array (Option Value)} {fd : FuncData} {body : List Stmt} {pos : List Value} {kw : List (PySem.Str × Value)} {binds : List (PySem.Str × Value)} {cmF : PySem.Str → Option Value}
  (R : Room (n + 1) A) (F : Fm w B L cl s₀ m cm news s)
  (ho : (KF w.params).lookup f = some ⟨oc, od, .func fd, osl⟩) (hcd : codeIn (KF w.params) fd.code fd.qualname = true) (hbody : fd.body = .stmts body) (hbind : BindsTo s fd ⟨pos, kw⟩ binds)
  (hcell : (fd.scope.names.all fun x => decide (x.2 ≠ .cell)) = true) (hloc : (binds.all fun x => decide (fd.scope.names.lookup x.1 = some .local)) = true)
  (hcl : ∀ n c, fd.closure.lookup n = some c → c < szTop ∧ ¬ Tab c ∧ ∃ o, (KF w.params).lookup c = some o ∧ o.data = .cell (cmF n)) (hcp : ∀ n n' c, fd.closure.lookup n = some c → fd.closure.lookup n' = some c → n = n')
  (h : ∀ Qo : Flow → Shared → Prop, (∀ fl s', Back w B L m cl cm news s₀ s Q (retV fl) s' → Qo fl s') → ∀ L' s₁, L' = s.heap.objs.size → Fm w (under s news) L' fd.closure s (bnd binds) cmF news s₁ → Room n (A.deeper (callEnv fd L' f)) →
   wpAny (M w) (A.deeper (callEnv fd L' f)) (execs body (callEnv fd L' f)) Qo (fun _ _ => False) s₁)
  (hco : fd.scope.isCoroutine = false) (hgen : fd.scope.isGenerator = false) (hk : fd.scope.kind = .function) : wpAny (M w) A (call (.ref f) pos kw) Q E s := by
 have X := F.K
 refine wpAny_call (codeAny_call_def (fd := fd) (body := body) (binds := binds) R.lt (X _ _ ho) rfl (F.wf.nl.keeps F.keep) (codeRec_of X hcd) hbody hbind
  (fun x hx => of_decide_eq_true (List.all_eq_true.mp hcell x hx)) (locs hloc) (fun h₁ hns hk₁ => ?_) hco hgen hk)
 have hz : s.heap.objs.size < h₁.objs.size := hns.lt
 refine wpAny_mono (h _ (fun _ _ x => x) s.heap.objs.size _ rfl (F.enter rfl hns hk₁ (Nat.le_of_lt hz) (fun n c e => ?_) (fun n c e => ?_) hcp) R.deeper) (fun fl s' hb => ?_) (fun _ _ x => x.elim)
 ·obtain ⟨_, _, o, ho, hd⟩ := hcl n c e
  exact ⟨o, hk₁ _ _ (X _ _ ho), hd⟩
 ·obtain ⟨hs, hT, o, ho, hd⟩ := hcl n c e
  refine ⟨Nat.ne_of_lt (Heap.lt_size (X _ _ ho)), fun q => ?_, hT⟩
  (refine x1_2 (List.mem_map.mp q) ?_; intro p hp e')
  exact absurd hs (by rw [← e']; exact Nat.not_lt.mpr (F.nw p hp).2.2.2)
 ·cases fl <;> exact hb.go F
end
section
variable {M : Model} {A : Around} {E : Value → Shared → Prop} {K : Frag} {x : Addr} {ox : Obj} {v t : Value} {name : PySem.Str} {h : Heap} {g : Array GenState} {d : Drawn} {tk : Nat} {os : OsState}
theorem zbh {Q : Value → Shared → Prop} (hx : h.get? x = some ox) (q : Q ox.cls ⟨h, g, d, tk, os⟩) : wpAny M A (typeOf (.ref x)) Q E ⟨h, g, d, tk, os⟩ := Looks.at (M := M) ((Looks.ld hx).andThen .now) q
theorem za6 {Q : Value → Shared → Prop} (X : K.In h) (e : typeIn K v = some t) (q : Q t ⟨h, g, d, tk, os⟩) : wpAny M A (typeOf v) Q E ⟨h, g, d, tk, os⟩ := (looks_typeIn X e).at q
theorem zaa {Q : Option Value → Shared → Prop} {r : Option Value} (hx : h.get? x = some ox) (X : K.In h) (e : findIn K ox.cls name = some r) (q : Q r ⟨h, g, d, tk, os⟩) : wpAny M A (specialOf (.ref x) name) Q E ⟨h, g, d, tk, os⟩ :=
 wpAny_bind (zbh hx ((looks_findIn X e).at q))
theorem zbj {Q : Option Value → Shared → Prop} {r : Option Value} (X : K.In h) (e : specialIn K v name = some r) (q : Q r ⟨h, g, d, tk, os⟩) : wpAny M A (specialOf v name) Q E ⟨h, g, d, tk, os⟩ := (looks_specialIn X e).at q
theorem zcj {Q : Option Value → Shared → Prop} {r : Option Value} (X : K.In h) (e : findIn K t name = some r) (q : Q r ⟨h, g, d, tk, os⟩) : wpAny M A (typeLookup t name) Q E ⟨h, g, d, tk, os⟩ := (looks_findIn X e).at q
theorem st_sub {Q : Bool → Shared → Prop} {r : Bool} {b : Value} (X : K.In h) (e : subIn K t b = some r) (q : Q r ⟨h, g, d, tk, os⟩) : wpAny M A (isSubtype t b) Q E ⟨h, g, d, tk, os⟩ := (looks_subIn X e).at q
theorem zbA {Q : Bool → Shared → Prop} {r : Bool} {b : Value} (hx : h.get? x = some ox) (X : K.In h) (e : subIn K ox.cls b = some r) (q : Q r ⟨h, g, d, tk, os⟩) : wpAny M A (isInstance (.ref x) b) Q E ⟨h, g, d, tk, os⟩ :=
 wpAny_bind (zbh hx (st_sub X e q))
theorem zah {b : Value} {r : Bool} (hx : h.get? x = some ox) (X : K.In h) (e : subIn K ox.cls b = some r) : Looks M h (isInstance (.ref x) b) r := ((Looks.ld hx).andThen .now).andThen (looks_subIn X e)
theorem zaC {f self tf : Value} {Q : Value × List Value → Shared → Prop} (X : K.In h) (e : typeIn K f = some tf) (ht : (tf == .type "function" || tf == .type "method_descriptor" || tf == .type "wrapper_descriptor") = true) (q : Q (f, [self]) ⟨h, g, d, tk, os⟩) : wpAny M A (bindSpecial f self) Q E ⟨h, g, d, tk, os⟩ := by
 unfold bindSpecial
 refine wpAny_bind (za6 X e ?_)
 rw [ht, if_pos rfl]
 exact wpAny_pure q
theorem zal {c : Value} {dd : Option Addr} {xs : Array Value} {n : Nat} {sl : Array (Option Value)} {f : Array Value → Array Value} {Q : Unit → Shared → Prop} (hx : h.get? x = some ⟨c, dd, .seq xs n, sl⟩) (hz : xs.size ≤ 100000) (hz' : (f xs).size ≤ 200000)
  (q : ∀ h' n', Heap.SameBut x h h' → h'.get? x = some ⟨c, dd, .seq (f xs) n', sl⟩ → Q () ⟨h', g, d, tk, os⟩) : wpAny M A (updateSeq x f) Q E ⟨h, g, d, tk, os⟩ :=
 wpAny_updateSeq hx rfl (q _ (if (f xs).size == xs.size then n else n + 1) (Heap.SameBut.update _ _ _) (Heap.get?_update_self _ hx rfl)) (Nat.le_trans hz (by decide)) (Nat.le_trans hz' (by decide))
theorem pushIn {o : Obj} (X : K.In h) : K.In (h.push o) := X.keeps fun _ _ e => Heap.get?_push_of_some _ e
end
theorem zb1 {K : Frag} {M : Model} {h : Heap} {x C dx : Addr} {ox : Obj} {b : Bool} (X : K.In h) (hx : h.get? x = some ox) (hcl : ox.cls = .ref C) (hh : hasDictIn K C = true) (hd : ox.dict = some dx) : Looks M h (instanceDict x b) (some dx) := by
 (refine x1_2 (any_some hh) ?_; intro cd hc hh)
 intro A Q E s k q
 unfold instanceDict
 obtain ⟨c, dd, dt, sl⟩ := ox
 dsimp only at hcl hd
 subst hcl hd
 refine wpAny_bind (wpAny_loadPart (k _ _ hx) ?_)
 dsimp only
 refine wpAny_bind ((looks_clsIn X hc) A _ E s k ?_)
 rw [hh]
 exact wpAny_pure q
structure EsOk (es : List DictEntry) (m : PySem.Str → Option Value) (c : Nat) : Prop where
 keys : ∀ e ∈ es, ∃ n t, e.key = .str n t
 find : ∀ n, (es.find? (·.key.isStr n)).map (·.val) = m n
 len : es.length ≤ c
noncomputable def upd (m : PySem.Str → Option Value) (n : PySem.Str) (v : Value) : PySem.Str → Option Value := fun y => if y = n then some v else m y
theorem EsOk.nil (c : Nat) : EsOk [] (fun _ => none) c := ⟨fun _ h => (nomatch h), fun _ => rfl, Nat.zero_le _⟩
theorem EsOk.look {es : List DictEntry} {m : PySem.Str → Option Value} {c k : Nat} (H : EsOk es m c) (n : PySem.Str) : lookIn n (dictOf es k) = some (m n) := by
 rw [lookIn_dict]
 unfold getL
 have q : es.any (·.refKey) = false := by
  rw [List.any_eq_false]; intro e he; obtain ⟨n, t, h⟩ := H.keys e he; simp [DictEntry.refKey, h]
 have hc := H.find n
 cases z : es.find? (fun x => x.key.isStr n) with
 | none => rw [z] at hc; rw [← hc, q]; rfl
 | some e => rw [z] at hc; rw [← hc]; rfl
theorem zbq (n name : PySem.Str) (t : Tok) : (Value.str name t).isStr n = decide (n = name) := by
 show (name == n) = _
 by_cases h : n = name
 ·subst h; simp
 ·have : ¬ name = n := fun e => h e.symm
  simp [h, this]
theorem zf3 {name : PySem.Str} {hsh : Int} {t : Tok} {v : Value} : ∀ {es : List DictEntry} {m : PySem.Str → Option Value} {c : Nat}, EsOk es m c → EsOk (putL name hsh (.str name t) v es) (upd m name v) (c + 1)
 | [], m, c, H => ⟨fun e he => by simp [putL] at he; subst he; exact ⟨_, _, rfl⟩, fun n => by
   have := H.find n
   simp only [putL, List.find?_cons, zbq, List.find?_nil, upd]
   by_cases q : n = name
   ·simp [q]
   ·simpa [q] using this, by simp [putL]⟩
 | e :: r, m, c, H => by
  (refine x2_1 (H.keys e (.head _)) ?_; intro n₀ t₀ he)
  have R : EsOk r (fun n => (r.find? (·.key.isStr n)).map (·.val)) (c - 1) := ⟨fun e h => H.keys e (.tail _ h), fun _ => rfl, Nat.le_sub_of_add_le H.len⟩
  unfold putL
  have hs : e.key.isStr name = decide (name = n₀) := by rw [he]; exact zbq _ _ _
  by_cases q : name = n₀
  ·rw [hs, decide_eq_true q, if_pos rfl]
   refine ⟨fun x hx => ?_, fun n => ?_, Nat.le_trans H.len (Nat.le_succ _)⟩
   ·rcases List.mem_cons.mp hx with rfl | hx
    ·exact ⟨n₀, t₀, he⟩
    ·exact H.keys x (.tail _ hx)
   ·have := H.find n
    simp only [List.find?_cons, he, zbq, upd] at this ⊢
    by_cases z : n = n₀
    ·simp [z, q]
    ·simpa [z, q] using this
  ·rw [hs, decide_eq_false q, if_neg Bool.false_ne_true]
   have ih := zf3 (name := name) (hsh := hsh) (t := t) (v := v) R
   refine ⟨fun x hx => ?_, fun n => ?_, Nat.succ_le_succ (Nat.le_trans ih.len (Nat.le_of_eq (Nat.sub_add_cancel (Nat.le_trans (Nat.succ_le_succ (Nat.zero_le _)) H.len))))⟩
   ·rcases List.mem_cons.mp hx with rfl | hx
    ·exact ⟨n₀, t₀, he⟩
    ·exact ih.keys x hx
   ·have := H.find n
    have i2 := ih.find n
    simp only [List.find?_cons, he, zbq, upd] at this i2 ⊢
    by_cases z : n = n₀
    ·have zz : ¬ n = name := fun e => q (e ▸ z)
     simp [z] at this ⊢
     rw [if_neg (fun e => q e.symm)]; exact this
    ·simp only [z, decide_false] at this ⊢
     rw [i2, this]
theorem zeE {name : PySem.Str} {hsh : Int} {t : Tok} {v : Value} : ∀ {es : List DictEntry}, (es.find? (·.key.isStr name)).isSome → (putL name hsh (.str name t) v es).length = es.length
 | [], H => by cases H
 | e :: r, H => by
  unfold putL
  cases q : e.key.isStr name with
  | true => simp
  | false =>
   rw [List.find?_cons, q] at H
   simp [zeE (name := name) (hsh := hsh) (t := t) (v := v) H]
theorem zf2 {m : PySem.Str → Option Value} {n : PySem.Str} {v v' : Value} : upd (upd m n v) n v' = upd m n v' := by
 funext y; unfold upd; by_cases h : y = n <;> simp [h]
section
variable {M : Model} {A : Around} {E : Value → Shared → Prop} {h : Heap} {g : Array GenState} {d : Drawn} {tk : Nat} {os : OsState}
theorem zae {vs : List Value} {Q : Value → Shared → Prop} (hz : vs.length ≤ 1000) (q : Q (.ref h.objs.size) ⟨h.push ⟨.type "tuple", none, .seq vs.toArray 0, #[]⟩, g, d, tk, os⟩) : wpAny M A (newTuple vs) Q E ⟨h, g, d, tk, os⟩ :=
 wpAny_newObj_type q (by show vs.toArray.size ≤ sizeLine; have : (1000 : Nat) ≤ sizeLine := by decide
                         simp; ktn_no "o4")
theorem zap {vs : List Value} {Q : Value → Shared → Prop} (hz : vs.length ≤ 1000) (q : Q (.ref h.objs.size) ⟨h.push ⟨.type "list", none, .seq vs.toArray 0, #[]⟩, g, d, tk, os⟩) : wpAny M A (newList vs) Q E ⟨h, g, d, tk, os⟩ :=
 wpAny_newObj_type q (by show vs.toArray.size ≤ sizeLine; have : (1000 : Nat) ≤ sizeLine := by decide
                         simp; ktn_no "o4")
theorem zeD {a : Addr} {es : List DictEntry} {k c : Nat} {m : PySem.Str → Option Value} {name : PySem.Str} {v : Value} {Q : Unit → Shared → Prop} (hd : h.get? a = some (dictOf es k)) (H : EsOk es m c)
  (q : ∀ h' k' es', Heap.SameBut a h h' → h'.get? a = some (dictOf es' k') → EsOk es' (upd m name v) (if (m name).isSome then c else c + 1) → Q () ⟨h', g, d, tk + 1, os⟩) : wpAny M A (nsSet a name v) Q E ⟨h, g, d, tk, os⟩ := by
 unfold nsSet
 refine wpAny_bind (wpAny_bind (wpAny_askSetting (wpAny_pure (wpAny_bind (wpAny_mkText (wpAny_bind (wpAny_loadPart hd ?_)))))))
 dsimp only
 have hany : es.toArray.any (·.refKey) = false := by
  rw [← Array.any_toList, List.any_eq_false]; intro e he; obtain ⟨n, t, h⟩ := H.keys e he; simp [DictEntry.refKey, h]
 simp only [aRefKeyMayBeTheName_eq, aRefKeyMayBeTheNameByArray, hany, Bool.and_false, Bool.false_eq_true, if_false]
 refine wpAny_updatePart hd (q _ (putN name es k) (putL name (PyData.keyHash M.w.params name) (.str name tk) v es) (Heap.SameBut.update _ _ _) ?_ ?_)
 refine (Heap.get?_update_self _ hd ?_).trans ?_
 ·show Obj.isFreed (Obj.putName name (PyData.keyHash M.w.params name) (.str name tk) v (dictOf es k)) = false
  rw [putName_dict]; rfl
 ·exact congrArg some (putName_dict _ _ _ _ _ _)
 ·have z := zf3 (name := name) (hsh := PyData.keyHash M.w.params name) (t := tk) (v := v) H
  split
  ·rename_i hs
   have := H.find name
   refine ⟨z.keys, z.find, ?_⟩
   rw [zeE (by rw [← H.find name] at hs; simpa using hs)]
   exact H.len
  ·exact z
end
local macro_rules | `(tactic| ktn_no "in_h") => `(tactic| first | assumption | (repeat (with_reducible refine pushIn ?_)); assumption)
local macro_rules | `(tactic| ktn_no "sz_tac") => `(tactic| first | ktn_no "o4" | (simp; done) | (simp; ktn_no "o4") | (simp [Array.size_eraseIdxIfInBounds]; split <;> simp <;> ktn_no "o4"))
local macro_rules | `(tactic| ktn_no "st_one") => `(tactic| first
 | ((with_reducible first
  | refine zbh (by heap_get; done) ?_
  | refine zaa (by heap_get; done) (by ktn_no "in_h") (by ktn_no "k_ev") ?_
  | refine zbA (by heap_get; done) (by ktn_no "in_h") (by ktn_no "k_ev") ?_
  | refine za6 (by ktn_no "in_h") (by ktn_no "k_ev") ?_
  | refine zbj (by ktn_no "in_h") (by ktn_no "k_ev") ?_
  | refine st_instK (by ktn_no "in_h") (by ktn_no "k_ev") ?_
  | refine zcj (by ktn_no "in_h") (by ktn_no "k_ev") ?_
  | refine zaC (by ktn_no "in_h") (by ktn_no "k_ev") (by decide +kernel) ?_
  | refine st_sub (by ktn_no "in_h") (by ktn_no "k_ev") ?_); try dsimp only)
 | (with_reducible refine zal (by heap_get; done) ?hz1 ?hz2 ?_; (case hz1 => ktn_no "sz_tac"); (case hz2 => ktn_no "sz_tac"))
 | wp_step)
local macro_rules | `(tactic| ktn_no "go") => `(tactic| repeat (ktn_no "no_call"; ktn_no "st_one"))
section
variable {prog : Program} {w : World} {A : Around} {E : Value → Shared → Prop} {s : Shared} {Q : Value → Shared → Prop}
theorem zeO {M : Model} {i owner n : String} {self : Value} {rest : List Value} {kw : List (PySem.Str × Value)} {Q : Unit → Shared → Prop}
  (hk : builtinKind i = some .slot ∨ builtinKind i = some .method) (hs : splitId i = some (owner, n)) (hi : Looks M s.heap (isInstance self (.type owner)) true) (ha : argsOk i ⟨self :: rest, kw⟩) (q : Q () s) :
  wpAny M A (checkBuiltinCall i ⟨self :: rest, kw⟩) Q E s := by
 rcases hk with hk | hk <;>
 ·simp only [checkBuiltinCall, hk, hs]
  refine wpAny_bind (hi.here ?_)
  simp only [Bool.not_true, Bool.false_eq_true, if_false]
  cases hsig : Manifest.signature? i with
  | none => exact wpAny_pure q
  | some sig =>
   simp only [argsOk, hsig] at ha
   have h2 : Bind.checkArgs i sig ⟨self :: rest, kw⟩ = pure () := ha
   show wpAny M A (Bind.checkArgs i sig ⟨self :: rest, kw⟩) Q E s
   rw [h2]; exact wpAny_pure q
theorem zav {i owner n : String} {b : Builtin} {self : Value} {rest : List Value}
  (hk : builtinKind i = some .slot ∨ builtinKind i = some .method) (hs : splitId i = some (owner, n)) (hq : plainId i = true) (hb : entryFor table i = some b) (ha : argsOk i ⟨self :: rest, []⟩)
  (hi : Looks (model prog w) s.heap (isInstance self (.type owner)) true)
  (hc : wpAny (model prog w) A.in1 (b ⟨self :: rest, []⟩) (fun fin s' => ∃ v, fin = .done (.ret v) ∧ Q v s') E s) :
  wpAny (model prog w) A (call (.builtin i) (self :: rest)) Q E s := by
 refine wpAny_call (codeAny_call_builtin hq hb (zeO hk hs hi ha (wpAny_mono hc (fun fin s' h' => ?_) fun _ _ h' => h')))
 obtain ⟨v, rfl, hv⟩ := h'; exact hv
end
noncomputable abbrev accO (dx : Addr) (vs : List Value) (n : Nat) : Obj := ⟨.ref a_Acc, some dx, .seq vs.toArray n, #[]⟩
theorem upd_hit {m : PySem.Str → Option Value} {x : PySem.Str} {v : Value} : upd m x v x = some v := by unfold upd; rw [if_pos rfl]
theorem zhU {m : PySem.Str → Option Value} {x y : PySem.Str} {v : Value} {c : Option Value} (h : decide (y = x) = false) (e : m y = c) : upd m x v y = c := by unfold upd; rw [if_neg (of_decide_eq_false h)]; exact e
local macro_rules | `(tactic| ktn_no "k_val") => `(tactic| first
 | (with_reducible assumption)
 | (with_reducible exact upd_hit)
 | ((with_reducible refine zhU ?_ ?_); kernel_rfl!; ktn_no "k_val")
 | k_dflt rfl)
section
open Builtin Builtin.ObjectAttr
section
variable {w : World} {A : Around} {E : Value → Shared → Prop} {x dx : Addr} {vs : List Value} {n : Nat} {h : Heap} {g : Array GenState} {d : Drawn} {tk : Nat} {os : OsState}
theorem zcF {Q : Value → Shared → Prop} {v : Value} (X : (KF w.params).In h) (hx : h.get? x = some (accO dx vs n)) (hz : vs.length ≤ 1000)
  (q : ∀ h' n', Heap.SameBut x h h' → h'.get? x = some (accO dx (vs ++ [v]) n') → Q .none ⟨h', g, d, tk, os⟩) :
  wpAny (M w) A (call (.builtin "list.append") [.ref x, v]) Q E ⟨h, g, d, tk, os⟩ := by
 refine zav (i := "list.append") (owner := "list") (n := "append") (b := Builtin.«list.append») (by first | exact .inr (by decide +kernel) | exact .inl (by decide +kernel)) (by decide +kernel) (by decide +kernel) (entryFor_of_tree (by kernel_rfl)) (by unfold argsOk; kernel_rfl) (zah hx X (by ktn_no "k_ev")) ?_
 unfold Builtin.«list.append» Builtin.List.listUpdate
 ktn_no "go"
 intro h1 n1 hs hx1
 ktn_no "go"
 exact ⟨_, rfl, q _ _ hs (by simpa using hx1)⟩
theorem zez (n : Nat) : seqIndex? (-1) (n + 1) = some n := by
 unfold seqIndex?
 have e : (-1 : Int) + ((n + 1 : Nat) : Int) = n := by rw [Int.natCast_add, Int.add_comm, Int.add_assoc]; exact Int.add_zero _
 have f : (if (-1 : Int) < 0 then (-1 : Int) + ((n + 1 : Nat) : Int) else -1) = n := by rw [if_pos (by decide), e]
 dsimp only
 rw [f, decide_eq_true (Int.natCast_nonneg n), decide_eq_true (Int.ofNat_lt.mpr (Nat.lt_succ_self n)), Bool.and_self, if_pos rfl, Int.toNat_natCast]
theorem zf7 {Q : Value → Shared → Prop} {v : Value} (hx : h.get? x = some (accO dx (vs ++ [v]) n)) (hz : vs.length ≤ 1000)
  (q : ∀ h' n', Heap.SameBut x h h' → h'.get? x = some (accO dx vs n') → Q v ⟨h', g, d, tk, os⟩) :
  wpAny (M w) A (Builtin.«list.pop» ⟨[.ref x], []⟩) (fun fin s' => ∃ v, fin = .done (.ret v) ∧ Q v s') E ⟨h, g, d, tk, os⟩ := by
 unfold Builtin.«list.pop»
 ktn_no "go"
 have e : (seqIndex? (-1) (vs ++ [v]).toArray.size).bind (fun k => Option.map (fun x => (k, x)) (vs ++ [v]).toArray[k]?) = some (vs.length, v) := by
  have e1 : seqIndex? (-1) (vs ++ [v]).toArray.size = some vs.length := by
   rw [List.size_toArray, List.length_append]; exact zez _
  rw [e1]; simp
 rw [e]
 unfold Builtin.List.listUpdate
 dsimp only
 refine wpAny_bind (zal hx ?_ ?_ ?_)
 ·simp; ktn_no "o4"
 ·simp [List.length_eraseIdx]; ktn_no "o4"
 intro h1 n1 hs hx1
 ktn_no "go"
 exact ⟨_, rfl, q _ _ hs (by simpa [List.eraseIdx_append_of_length_le] using hx1)⟩
theorem zhK {Q : Value → Shared → Prop} (X : (KF w.params).In h) (hx : h.get? x = some (accO dx vs n))
  (q : Q (.ref h.objs.size) ⟨h.push ⟨.type "list_iterator", none, .fields #[.ref x, rawInt 0], #[]⟩, g, d, tk, os⟩) :
  wpAny (M w) A (call (.builtin "list.__iter__") [.ref x]) Q E ⟨h, g, d, tk, os⟩ := by
 refine zav (i := "list.__iter__") (owner := "list") (n := "__iter__") (b := Builtin.«list.__iter__») (by first | exact .inr (by decide +kernel) | exact .inl (by decide +kernel)) (by decide +kernel) (by decide +kernel) (entryFor_of_tree (by kernel_rfl)) (by unfold argsOk; kernel_rfl) (zah hx X (by ktn_no "k_ev")) ?_
 unfold Builtin.«list.__iter__»
 ktn_no "go"
 exact ⟨_, rfl, q⟩
variable {hs : Int} {t1 : Tok} {v : Value} {k : Nat} {es : List DictEntry} {c : Nat} {mm : PySem.Str → Option Value}
theorem za9 {Q : Value × List Value → Shared → Prop} {pl : Sem Bool} {name : PySem.Str} {f tf : Value} (X : (KF w.params).In h) (hx : h.get? x = some (accO dx vs n)) (hd : h.get? dx = some (dictOf es k)) (hD : EsOk es mm c)
  (hf : findIn (KF w.params) (.ref a_Acc) name = some (some f)) (ht : typeIn (KF w.params) f = some tf) (ht2 : (tf != .type "function" && tf != .type "method_descriptor" && tf != .type "wrapper_descriptor") = false) (hl : mm name = none)
  (q : Q (f, [.ref x]) ⟨h, g, d, tk, os⟩) : wpAny (M w) A (getMethod (.ref x) name pl) Q E ⟨h, g, d, tk, os⟩ := by
 unfold getMethod
 refine wpAny_bind (zaa hx X (by ktn_no "k_ev") ?_)
 dsimp only
 (ktn_no "iN"; exact (by decide +kernel))
 refine wpAny_bind (zaa hx X (by ktn_no "k_ev") ?_)
 (ktn_no "iN"; exact (by decide))
 refine wpAny_bind (zaa hx X hf ?_)
 dsimp only
 refine wpAny_bind (za6 X ht ?_)
 rw [ht2]
 (ktn_no "iN"; exact (by decide))
 refine wpAny_bind (wpAny_loadPart hx ?_)
 refine wpAny_bind (wpAny_bind (wpAny_loadPart hd ?_))
 rw [nsLook_of (hD.look name), hl]
 ktn_no "go"
 exact q
theorem zc7 (hx : h.get? x = some (accO dx vs n)) {od : Obj} (hd : h.get? dx = some od) : InstAt h x (accO dx vs n) a_Acc (some od) := ⟨hx, rfl, rfl, hd⟩
theorem zej {Q : Value → Shared → Prop} {ex : Bool} (X : (KF w.params).In h) (hx : h.get? x = some (accO dx vs n)) (hd : h.get? dx = some (dictOf es k)) (hD : EsOk es mm c) (hm : mm "_initial_size" = some v) (hv : handedIn v = true)
  (q : Q v ⟨h, g, d, tk + 1, os⟩) : wpAny (M w) A (getAttr (.ref x) "_initial_size" ex) Q E ⟨h, g, d, tk, os⟩ := by
 unfold getAttr getAttrBy
 ktn_no "go"
 rw [show onTheHeap (Value.builtin "list.__getattribute__") = false from rfl, Bool.and_false, if_neg Bool.false_ne_true]
 unfold boundAndCalled
 refine wpAny_bind ?_
 ktn_no "st_one"
 refine zav (i := "list.__getattribute__") (owner := "list") (n := "__getattribute__") (b := Builtin.«object.__getattribute__») (by first | exact .inr (by decide +kernel) | exact .inl (by decide +kernel)) (by decide +kernel) (by decide +kernel) (entryFor_alias (id' := "object.__getattribute__") (by decide +kernel) (by decide +kernel) (by decide +kernel) (by rw [fastTable_eq_tree]; kernel_rfl)) (by unfold argsOk; kernel_rfl) (zah hx X (by ktn_no "k_ev")) ?_
 unfold Builtin.«object.__getattribute__»
 have L : Looks (model pw w) h (find (.ref x) (.ref a_Acc) "_initial_size") (.value v) := looks_find X (zc7 hx hd) (findObj_own (attr := none) (by ktn_no "k_ev") (by ktn_no "k_ev") (by ktn_no "k_ev") (by rw [hD.look, hm]))
 repeat (first | (with_reducible refine Looks.at L ?_; dsimp only) | ktn_no "st_one")
 refine ⟨_, rfl, ?_⟩
 rw [handedOut_of hv]
 exact wpAny_pure q
theorem zfj (l : List Value) (h : l = [.ref a_Acc, .type "list", .type "object"]) : refuseLoop (.ref x) "__setattr__" l = pure () := by
 subst h
 rw [refuseLoop_ref]
 have e : refuseLoop (.ref x) "__setattr__" [.type "list", .type "object"] = refuseLoop (.ref x) "__setattr__" [.type "object"] := by
  unfold refuseLoop
  simp only [List.forIn_cons, classOwn]
  have : builtinOwn "list" "__setattr__" = none := by rw [builtinOwn_eq_fast]; decide +kernel
  simp [this]
 rw [e]; exact PySem.F.store_object.passes _
theorem zec {Q : Unit → Shared → Prop} (X : (KF w.params).In h) (hx : h.get? x = some (accO dx vs n)) (hne : x ≠ dx) (hd : h.get? dx = some (dictOf es k)) (hD : EsOk es mm c) (hc : c ≤ 100)
  (q : ∀ h' tk' k' es', Heap.SameBut dx h h' → h'.get? dx = some (dictOf es' k') → EsOk es' (upd mm "_initial_size" v) (if (mm "_initial_size").isSome then c else c + 1) → Q () ⟨h', g, d, tk', os⟩) : wpAny (M w) A (setAttr (.ref x) "_initial_size" v) Q E ⟨h, g, d, tk, os⟩ := by
 unfold setAttr
 ktn_no "go"
 refine zav (i := "object.__setattr__") (owner := "object") (n := "__setattr__") (b := Builtin.«object.__setattr__») (by first | exact .inr (by decide +kernel) | exact .inl (by decide +kernel)) (by decide +kernel) (by decide +kernel) (entryFor_of_tree (by kernel_rfl)) (by unfold argsOk; kernel_rfl) (zah hx X (by ktn_no "k_ev")) ?_
 rw [show (Value.ref x :: [].append [Value.str "_initial_size" tk, v]) = [Value.ref x, Value.str "_initial_size" tk, v] from rfl, osa_eq, refuse_eq]
 refine wpAny_bind (wpAny_bind (zbh hx (wpAny_bind ?_)))
 refine Looks.at (r := [.ref a_Acc, .type "list", .type "object"]) ((looks_clsIn X (by ktn_no "k_ev")).andThen (Looks.of_pure (by kernel_rfl))) ?_
 rw [zfj _ rfl]
 have LI : Looks (model pw w) h (instanceDict x true) (some dx) := zb1 X hx rfl (by ktn_no "k_ev") rfl
 repeat (first | (with_reducible refine zeD hd hD ?_) | (with_reducible refine Looks.at LI ?_; dsimp only) | (ktn_no "no_call"; ktn_no "st_one"))
 intro h' k' es' hs h1 hE
 refine wpAny_bind (wpAny_lookBehind h1 ?_ ?_)
 ·show Data.pastItsLine (.dict es'.toArray k') = none
  have := hE.len
  split at this <;> exact if_neg (by show ¬ es'.length > 16777216 + 1; ktn_no "o4")
 ktn_no "go"
 exact ⟨_, rfl, wpAny_pure (wpAny_pure (q _ _ _ _ hs h1 hE))⟩
end
end
section
variable {w : World} {B : Heap} {L : Addr} {m : PySem.Str → Option Value} {cl : List (PySem.Str × Addr)} {cm : PySem.Str → Option Value} {news : List (Addr × Obj)} {s₀ : Shared} {A : Around} {E : Value → Shared → Prop}
 {h : Heap} {g g₀ : Array GenState} {d d₀ : Drawn} {tk tk₀ : Nat} {os os₀ : OsState} {env : Env} {x : PySem.Str} {v : Value} {c : Addr} {pos : Pos}
theorem nm_L {Q : Value → Shared → Prop} (F : Fm w B L cl s₀ m cm news ⟨h, g₀, d₀, tk₀, os₀⟩) (hk : env.scope.kind = .function) (hx : env.kindOf x = some .local) (hL : env.locals = L) (hb : (x == ("__debug__" : PySem.Str)) = false) (hv : m x = some v) (q : Q v ⟨h, g, d, tk, os⟩) :
  wpAny (M w) A (eval (.Name x pos) env) Q E ⟨h, g, d, tk, os⟩ := wpAny_Name (wpAny_loadName_local hk hx (by subst hL; exact F.ns) hv q) hb
theorem nm_C {Q : Value → Shared → Prop} (F : Fm w B L cl s₀ m cm news ⟨h, g₀, d₀, tk₀, os₀⟩) (hk : env.scope.kind = .function) (hx : env.kindOf x = some .cell) (hL : env.cells = cl) (hb : (x == ("__debug__" : PySem.Str)) = false) (hc : cl.lookup x = some c) (hv : cm x = some v) (q : Q v ⟨h, g, d, tk, os⟩) :
  wpAny (M w) A (eval (.Name x pos) env) Q E ⟨h, g, d, tk, os⟩ := wpAny_Name (wpAny_loadName_cell hk hx (by rw [hL]; exact hc) (hv ▸ F.ce x c hc) q) hb
theorem nm_G {Q : Value → Shared → Prop} (F : Fm w B L cl s₀ m cm news ⟨h, g₀, d₀, tk₀, os₀⟩) (hk : env.scope.kind = .function) (hx : env.kindOf x = some .globalImplicit) (hL : env.globals = mainGlobals) (hb : (x == ("__debug__" : PySem.Str)) = false) (e : nsIn (KF w.params) mainGlobals x = some (some v)) (q : Q v ⟨h, g, d, tk, os⟩) :
  wpAny (M w) A (eval (.Name x pos) env) Q E ⟨h, g, d, tk, os⟩ := by
 obtain ⟨mg, hg⟩ := F.wf.g
 exact Name_function_global hk hx (loadGlobal_global (by rw [hL]; exact hg.keeps F.keep) (mg_of F.wf.k hg e) q) hb
theorem nm_B {Q : Value → Shared → Prop} (F : Fm w B L cl s₀ m cm news ⟨h, g₀, d₀, tk₀, os₀⟩) (hk : env.scope.kind = .function) (hx : env.kindOf x = some .globalImplicit) (hL : env.globals = mainGlobals) (hL2 : env.builtins = builtinsNs) (hb : (x == ("__debug__" : PySem.Str)) = false)
  (e : nsIn (KF w.params) mainGlobals x = some none) (hv : bootBuiltins x = some v) (hn : x ≠ "__name__") (q : Q v ⟨h, g, d, tk, os⟩) :
  wpAny (M w) A (eval (.Name x pos) env) Q E ⟨h, g, d, tk, os⟩ := by
 obtain ⟨mg, hg⟩ := F.wf.g
 (refine x1_2 (F.wf.b) ?_; intro mb hmb hbb)
 exact Name_function_global hk hx (loadGlobal_builtin (by rw [hL]; exact hg.keeps F.keep) (mg_none_of F.wf.k hg e) (by rw [hL2]; exact hmb.keeps F.keep) ((hbb x hn).trans hv) q) hb
theorem st_L {Q : Unit → Shared → Prop} (F : Fm w B L cl s₀ m cm news ⟨h, g, d₀, tk₀, os⟩) (hk : env.scope.kind = .function) (hx : env.kindOf x = some .local) (hL : env.locals = L)
  (q : ∀ h', Fm w B L cl s₀ (upd m x v) cm news ⟨h', g, d, tk + 1, os⟩ → Q () ⟨h', g, d, tk + 1, os⟩) : wpAny (M w) A (storeName env x v) Q E ⟨h, g, d, tk, os⟩ := by
 subst hL
 exact wpAny_storeName_local hx F.ns (fun h' hn hs => q h' (Fm.store (s := ⟨h, g, d, tk, os⟩) (F.withD (d := d) (tk := tk)) hn hs)) (by rw [hk]; rfl)
theorem st_C {Q : Unit → Shared → Prop} (F : Fm w B L cl s₀ m cm news ⟨h, g, d₀, tk₀, os⟩) (hk : env.scope.kind = .function) (hx : env.kindOf x = some .cell) (hL : env.cells = cl) (hc : cl.lookup x = some c) (hB : B.get? c = none) (hz : szTop ≤ c)
  (q : ∀ h', Fm w B L cl s₀ m (upd cm x v) news ⟨h', g, d, tk, os⟩ → Q () ⟨h', g, d, tk, os⟩) : wpAny (M w) A (storeName env x v) Q E ⟨h, g, d, tk, os⟩ :=
 wpAny_storeName_cell hk hx (by rw [hL]; exact hc) (F.ce x c hc) (fun h' hv hs => q h' (Fm.storeC (s := ⟨h, g, d, tk, os⟩) (F.withD (d := d) (tk := tk)) hc hB hv hs hz (tk := tk)))
end
local macro_rules | `(tactic| ktn_no "nm1") => `(tactic| first
 | (with_reducible refine nm_L (by assumption) (by kernel_rfl) (by kernel_rfl!) (by kernel_rfl) (by kernel_rfl) (by ktn_no "k_val") ?_)
 | (with_reducible refine nm_F (by assumption) (by kernel_rfl) (by kernel_rfl!) (by kernel_rfl) (by kernel_rfl) (by kernel_rfl) (by ktn_no "k_val") (by ktn_no "k_val") ?_)
 | (with_reducible refine nm_C (by assumption) (by kernel_rfl) (by kernel_rfl!) (by kernel_rfl) (by kernel_rfl) (by ktn_no "k_val") (by ktn_no "k_val") ?_)
 | (with_reducible refine nm_G (by assumption) (by kernel_rfl) (by kernel_rfl!) (by kernel_rfl) (by kernel_rfl) (by ktn_no "k_ev") ?_)
 | (with_reducible refine nm_B (by assumption) (by kernel_rfl) (by kernel_rfl!) (by kernel_rfl) (by kernel_rfl) (by kernel_rfl) (by ktn_no "k_ev") (by boot_fast) (by decide) ?_))
section
variable {prog : Program} {w : World} {A : Around} {E : Value → Shared → Prop} {s : Shared} {env : Env} {pos : Pos} {e : Expr} {rest : List Expr}
theorem zaG {Q : List Value → Shared → Prop} (h : wpAny (model prog w) A (eval e env) (fun v s₁ => wpAny (model prog w) A (spliced (backTo pos (starEach rest env))) (fun vs s₂ => Q (v :: vs) s₂) E s₁) E s)
  (he : starEach (e :: rest) env = (false, eval e env) :: starEach rest env) : wpAny (model prog w) A (spliced (backTo pos (starEach (e :: rest) env))) Q E s := by
 rw [he]; exact spliced_cons h
theorem mc_ {o : Expr} {name : PySem.Str} {apos : Pos} {args : List Expr} {Q : Value → Shared → Prop}
  (h : wpAny (model prog w) A (eval o env) (fun ov s₁ => wpAny (model prog w) A (getMethod ov name (do return (← importBound o env).getD true)) (fun fx s₂ => wpAny (model prog w) A (callWith pos fx.1 fx.2 (backTo pos (starEach args env)) []) Q E s₂) E s₁) E s)
  (hbase : attributeBase o name env (eval o env) = eval o env) (hfew : methodCallForm (args.length + ([] : List Keyword).length) (backTo pos (starEach args env)) (backToKw pos (keywordEach [] env)) = true) (hline : (apos.endLine == pos.line) = true) :
  wpAny (model prog w) A (eval (.Call (.Attribute o name apos) args [] pos) env) Q E s := by
 rw [arm_eval_Call, hbase]
 refine wpAny_bind (wpAny_mono h (fun ov s₁ h₁ => ?_) fun _ _ e => e)
 refine wpAny_bind (wpAny_standAt ?_)
 have hpos : methodCallPos true o env apos pos = pure pos := by unfold methodCallPos; simp [hline]
 unfold methodCall
 rw [hfew]
 refine wpAny_bind (wpAny_holding (wpAny_mono h₁ (fun fx s₂ h₂ => ?_) fun _ _ e => e))
 exact wpAny_bind (wpAny_of_eq hpos h₂)
theorem sp_nil {Q : List Value → Shared → Prop} (h : Q [] s) : wpAny (model prog w) A (spliced (backTo pos (starEach [] env))) Q E s := spliced_nil h
theorem cw_b0 {id : String} {first : List Value} {Q : Value → Shared → Prop} (h : wpAny (model prog w) A (call (.builtin id) first) Q E s) :
  wpAny (model prog w) A (callWith pos (.builtin id) first (backTo pos (starEach [] env)) []) Q E s := callWith_method0 h
theorem cw_b {id : String} {first : List Value} {Q : Value → Shared → Prop} (h : wpAny (model prog w) A (spliced (backTo pos (starEach (e :: rest) env))) (fun vs s₁ => wpAny (model prog w) A (call (.builtin id) (first ++ vs)) Q E s₁) E s)
  (he : starEach (e :: rest) env = (false, eval e env) :: starEach rest env) (hp : (backTo pos (starEach rest env)).any (·.1) = false) :
  wpAny (model prog w) A (callWith pos (.builtin id) first (backTo pos (starEach (e :: rest) env)) []) Q E s := callWith_method1 h he hp
theorem cw_f0 {f : Value} {first : List Value} {Q : Value → Shared → Prop} (X : (KF w.params).In s.heap) (hk : keepIn (KF w.params) f = true) (h : wpAny (model prog w) A (call f first) Q E s) :
  wpAny (model prog w) A (callWith pos f first (backTo pos (starEach [] env)) []) Q E s := callWith_K0 X hk (by rw [List.append_nil]; exact h)
end
local macro_rules | `(tactic| ktn_no "w1") => `(tactic| first
 | (with_reducible first
  | refine wpAny_execs_nil ?_ | refine wpAny_execs_cons ?_ | refine wpAny_Return_some ?_ | refine wpAny_Return_none ?_ | refine wpAny_If ?_
  | refine isTrue_not ?_ | refine isTrue_and ?_ | refine isTrue_or ?_ | refine isTrue_and_nil ?_ | refine isTrue_or_nil ?_
  | refine wpAny_truthy_bool ?_ | refine eq_int ?_ | refine gt_int ?_ | refine lt_int ?_ | refine sub_int ?_ | refine add_int ?_ | refine is_none ?_ | refine neg_int ?_ | refine not_of ?_
  | refine wpAny_AugAssign_Name ?_ | refine wpAny_AugAssign_AttributeAny ?_ | refine wpAny_Break ?_ | refine wpAny_Continue ?_
  | refine wpAny_Constant_int ?_ | refine Constant_str ?_ | refine Constant_none ?_ | refine Constant_bool ?_
  | refine Tuple_ ?_ | refine List_ ?_ | refine wpAny_BinOp ?_ | refine UnaryOp_ ?_ | refine BoolOp_one ?_ | refine BoolOp_and ?_ | refine BoolOp_or ?_ | refine sp_nil ?_ | refine cw_b0 ?_)
 | ((with_reducible first
  | refine wpAny_isTrue_Compare1 ?_ ?a1 | refine wpAny_Assign_Name ?_ ?a1 | refine plainObj_wpAny_Assign_Attribute ?_ ?a1 | refine wpAny_Compare1 ?_ ?a1 | refine zaG ?_ ?a1); (case a1 => kernel_rfl))
 | ((with_reducible refine isTrue_plain ?_ ?a1); (case a1 => kernel_rfl!))
 | ktn_no "nm1"
 | ((with_reducible refine mc_ ?_ ?a1 ?a2 ?a3); (case a1 => kernel_rfl!); (case a2 => kernel_rfl); (case a3 => kernel_rfl))
 | ((with_reducible refine Attribute_any_ ?_ ?a1); (case a1 => kernel_rfl))
 | ((with_reducible first | refine wpAny_Expr_any ?_ ?a1 ?a2 | refine cw_b ?_ ?a1 ?a2); (case a1 => kernel_rfl); (case a2 => kernel_rfl))
 | ((ktn_no "no_call"); dsimp only))
local macro_rules | `(tactic| ktn_no "w") => `(tactic| repeat ktn_no "w1")
theorem perm_of {α : Type} {a b : List α} (h : ∀ [BEq α] [LawfulBEq α] (x : α), a.count x = b.count x) : a.Perm b := by
 letI : BEq α := ⟨fun a b => @decide (a = b) (Classical.propDecidable _)⟩
 haveI : LawfulBEq α := { eq_of_beq := fun h => @of_decide_eq_true _ (Classical.propDecidable _) h, rfl := fun {a} => @decide_eq_true (a = a) (Classical.propDecidable _) rfl }
 exact List.perm_iff_count.mpr fun x => h x
theorem pq_e {α : Type} {a : α} {l z t : List α} (h : l.Perm (a :: z)) (k : z.Perm t) : l.Perm (a :: t) := h.trans (k.cons a)
theorem pq_l {α : Type} {a l z t : List α} (h : l.Perm (a ++ z)) (k : z.Perm t) : l.Perm (a ++ t) := h.trans (k.append_left a)
theorem pq_ee {α : Type} {a b : α} {t z : List α} (h : t.Perm (a :: z)) : (b :: t).Perm (a :: b :: z) := (h.cons b).trans (.swap _ _ _)
theorem pq_le {α : Type} {a : α} {b t z : List α} (h : t.Perm (a :: z)) : (b ++ t).Perm (a :: (b ++ z)) := (h.append_left b).trans List.perm_middle
theorem pq_el {α : Type} {b : α} {a t z : List α} (h : t.Perm (a ++ z)) : (b :: t).Perm (a ++ (b :: z)) := (h.cons b).trans List.perm_middle.symm
theorem pq_ll {α : Type} {a b t z : List α} (h : t.Perm (a ++ z)) : (b ++ t).Perm (a ++ (b ++ z)) := (h.append_left b).trans (by rw [← List.append_assoc, ← List.append_assoc]; exact List.perm_append_comm.append_right _)
theorem pq_ra {α : Type} {a b t x : List α} (h : x.Perm (a ++ (b ++ t))) : x.Perm ((a ++ b) ++ t) := by rw [List.append_assoc]; exact h
theorem pq_la {α : Type} {a b t x : List α} (h : (a ++ (b ++ t)).Perm x) : ((a ++ b) ++ t).Perm x := by rw [List.append_assoc]; exact h
theorem pq_rc {α : Type} {a : α} {b t x : List α} (h : x.Perm (a :: (b ++ t))) : x.Perm ((a :: b) ++ t) := h
theorem pq_lc {α : Type} {a : α} {b t x : List α} (h : (a :: (b ++ t)).Perm x) : ((a :: b) ++ t).Perm x := h
theorem pq_rn {α : Type} {t x : List α} (h : x.Perm t) : x.Perm ([] ++ t) := h
theorem pq_ln {α : Type} {t x : List α} (h : t.Perm x) : ([] ++ t).Perm x := h
local macro_rules | `(tactic| ktn_no "pull") => `(tactic| with_reducible first
 | exact List.Perm.refl _
 | (apply pq_lc; ktn_no "pull") | (apply pq_ln; ktn_no "pull") | (apply pq_la; ktn_no "pull")
 | (apply pq_ee; ktn_no "pull") | (apply pq_el; ktn_no "pull") | (apply pq_le; ktn_no "pull") | (apply pq_ll; ktn_no "pull"))
local macro_rules | `(tactic| ktn_no "perm") => `(tactic| with_reducible first
 | exact List.Perm.refl _
 | (apply pq_rc; ktn_no "perm") | (apply pq_rn; ktn_no "perm") | (apply pq_ra; ktn_no "perm") | (apply pq_ln; ktn_no "perm") | (apply pq_la; ktn_no "perm")
 | (apply List.Perm.cons; ktn_no "perm") | (apply List.Perm.append_left; ktn_no "perm")
 | (apply pq_e; (case h => ktn_no "pull"); ktn_no "perm") | (apply pq_l; (case h => ktn_no "pull"); ktn_no "perm"))
local macro_rules | `(tactic| ktn_no "perm_tac") => `(tactic| first | ktn_no "perm" | ((dsimp only [List.cons_append, List.nil_append]); ktn_no "perm") | exact List.Perm.refl _ | (refine perm_of fun aPerm => ?_; simp only [List.count_cons, List.count_append, List.count_nil, List.cons_append, List.nil_append, List.append_assoc]; ktn_no "o4"))
section
variable {w : World} {B : Heap} {L : Addr} {m : PySem.Str → Option Value} {cl : List (PySem.Str × Addr)} {cm : PySem.Str → Option Value} {news news' : List (Addr × Obj)} {s₀ s : Shared}
theorem Fm.perm (F : Fm w B L cl s₀ m cm news s) (hp : news.Perm news') : Fm w B L cl s₀ m cm news' s :=
 { F with nw := fun p h => F.nw p (hp.mem_iff.mpr h), nd := (hp.map _).nodup_iff.mp F.nd, cd := fun n c e => let ⟨a, b, d⟩ := F.cd n c e; ⟨a, fun q => b ((hp.map (·.1)).mem_iff.mpr q), d⟩ }
end
noncomputable abbrev tupO (vs : List Value) : Obj := ⟨.type "tuple", none, .seq vs.toArray 0, #[]⟩
inductive Tups : List (PySem.Str × PySem.Str) → List Value → List (Addr × Obj) → Prop
 | nil : Tups [] [] []
 | cons {f p : PySem.Str} {r vs l q t1 t2} : Tups r vs l → Tups ((f, p) :: r) (.ref q :: vs) ((q, tupO [.str f t1, .str p t2]) :: l)
theorem Tups.append {a b va vb la lb} (x : Tups a va la) (y : Tups b vb lb) : Tups (a ++ b) (va ++ vb) (la ++ lb) := by
 induction x with
 | nil => exact y
 | cons x ih => exact .cons ih
theorem Tups.len {a va la} (x : Tups a va la) : va.length = a.length := by
 induction x with
 | nil => rfl
 | cons x ih => exact congrArg (· + 1) ih
theorem Tups.split {b} : ∀ {a v l}, Tups (a ++ b) v l → ∃ va vb la lb, v = va ++ vb ∧ l = la ++ lb ∧ Tups a va la ∧ Tups b vb lb := by
 intro a
 induction a with
 | nil => exact fun {v l} h => ⟨[], v, [], l, rfl, rfl, .nil, h⟩
 | cons y r ih =>
  intro v l h
  cases h with
  | cons x =>
   obtain ⟨va, vb, la, lb, e1, e2, h1, h2⟩ := ih x
   exact ⟨_, vb, _, lb, congrArg _ e1, congrArg _ e2, .cons h1, h2⟩
noncomputable abbrev accM (init : Int) (t : Tok) : PySem.Str → Option Value := upd (fun _ => none) "_initial_size" (.int init t)
inductive AccP (x : Addr) (its : List (PySem.Str × PySem.Str)) (init : Int) (own : List (Addr × Obj)) : Prop
 | mk (dx : Addr) (n k : Nat) (vs : List Value) (l : List (Addr × Obj)) (es : List DictEntry) (t : Tok) (e : own = (x, accO dx vs n) :: (dx, dictOf es k) :: l) (hE : EsOk es (accM init t) 1) (hT : Tups its vs l) : AccP x its init own
local macro_rules | `(tactic| ktn_no "k_f") => `(tactic| (first | exact (by assumption)))
section
variable {w : World} {B : Heap} {L : Addr} {m : PySem.Str → Option Value} {cl : List (PySem.Str × Addr)} {cm : PySem.Str → Option Value} {own rest news : List (Addr × Obj)} {s₀ s : Shared} {A : Around} {E : Value → Shared → Prop} {Q : Value → Shared → Prop} {n : Nat} {x : Addr} {its : List (PySem.Str × PySem.Str)} {init : Int}
theorem zbl {a b : PySem.Str} {ta tb : Tok} (R : Room (n + 5) A) (F : Fm w B L cl s₀ m cm (own ++ rest) s) (P : AccP x its init own) (hz : its.length ≤ 900)
  (h : ∀ own' s', AccP x (its ++ [(a, b)]) init own' → Fm w B L cl s₀ m cm (own' ++ rest) s' → Q .none s') :
  wpAny (M w) A (call (.ref a_Acc_push) [.ref x, .str a ta, .str b tb] []) Q E s := by
 refine zam (binds := [("self", .ref x), ("fws", .str a ta), ("string", .str b tb)]) (fd := fd_Acc_push) (cmF := fun _ => none) R F (zcg _) (zci _) rfl (BindsTo.of_eq rfl) (by decide) (by kernel_rfl) (fun _ _ e => (by cases e)) (fun _ _ _ e => (by cases e)) ?_ rfl rfl rfl
 obtain ⟨dx, n, k, vs, l, es, t, rfl, hE, hT⟩ := P
 intro Qo hQo L' s₁ hL F₁ R₁
 obtain ⟨h₁, g₁, d₁, k₁, o₁⟩ := s₁
 have X := F₁.K
 have hx := F₁.at 0 rfl
 have hd := F₁.at 1 rfl
 ktn_no "ast"
 ktn_no "w"
 refine za9 X hx hd hE (by ktn_no "k_ev") (by ktn_no "k_ev") (by decide +kernel) (by ktn_no "k_ev") ?_
 ktn_no "w"
 refine zae (by simp) ?_
 ktn_no "w"
 have F₂ := Fm.push F₁ (tupO [.str a ta, .str b tb]) (tk := k₁)
 have hx' := F₂.at 1 rfl
 refine zcF F₂.K hx' (by rw [hT.len]; ktn_no "o4") fun h' n' hs hx'' => ?_
 have F₃ := F₂.set (i := 1) rfl hs hx'' (tk := k₁)
 ktn_no "w"
 refine hQo _ _ <| Back.of (F₃.perm (news' := ((x, accO dx (vs ++ [.ref h₁.objs.size]) n') :: (dx, dictOf es k) :: (l ++ [(h₁.objs.size, tupO [.str a ta, .str b tb])])) ++ rest) ?_) fun G => h _ _ ⟨_, _, _, _, _, _, _, rfl, hE, hT.append (.cons .nil)⟩ G
 simp only [List.cons_append, List.set]
 ktn_no "perm_tac"
end
section
variable {w : World} {A : Around} {E : Value → Shared → Prop} {x so dx : Addr} {vs : List Value} {n : Nat} {h : Heap} {g : Array GenState} {d : Drawn} {tk : Nat} {os : OsState}
theorem st_own {K : Frag} {M : Model} {name : PySem.Str} {c : Value} {r : Option Value} {Q : Option Value → Shared → Prop} (X : K.In h) (e : ownIn K name c = some r) (q : Q r ⟨h, g, d, tk, os⟩) : wpAny M A (classOwn c name) Q E ⟨h, g, d, tk, os⟩ := (looks_ownIn X e).at q
theorem st_cd {K : Frag} {M : Model} {c : Addr} {r : ClassData} {Q : ClassData → Shared → Prop} (X : K.In h) (e : clsIn K c = some r) (q : Q r ⟨h, g, d, tk, os⟩) : wpAny M A (classData c) Q E ⟨h, g, d, tk, os⟩ := (looks_clsIn X e).at q
theorem st_mro {K : Frag} {M : Model} {c : Addr} {r : List Value} {Q : List Value → Shared → Prop} (X : K.In h) (e : (clsIn K c).map (·.mro) = some r) (q : Q r ⟨h, g, d, tk, os⟩) : wpAny M A (mroOf (.ref c)) Q E ⟨h, g, d, tk, os⟩ := by
 (refine x1_2 (Option.map_eq_some_iff.mp e) ?_; intro cd a b)
 subst b
 exact Looks.at ((looks_clsIn X a).andThen .now) q
theorem sup_ga {name : PySem.Str} {tn : Tok} {id : String} {Q : Fin → Shared → Prop} (X : (KF w.params).In h) (hxC : x ≠ a_Acc) (hso : h.get? so = some (ks_superObj a_Acc x a_Acc)) (hn : (name == ("__class__" : PySem.Str)) = false)
  (hc : (clsIn (KF w.params) a_Acc).map (·.mro) = some [.ref a_Acc, .type "list", .type "object"]) (ho : ownIn (KF w.params) name (.type "list") = some (some (.builtin id))) {tf g1 : Value} (ht : typeIn (KF w.params) (.builtin id) = some tf) (hg : findIn (KF w.params) tf "__get__" = some (some g1))
  (hno : nsIn (KF w.params) cStatics "thirdparty.any" = some none)
  (q : wpAny (M w) A (call g1 [.builtin id, .ref x, .ref a_Acc]) (fun v => Q (.done (.ret v))) E ⟨h, g, d, tk, os⟩) :
  wpAny (M w) A (Builtin.«super.__getattribute__» ⟨[.ref so, .str name tn], []⟩) Q E ⟨h, g, d, tk, os⟩ := by
 have hne : (Value.ref x == Value.ref a_Acc) = false := by simp [hxC]
 have hdt : (ks_superObj a_Acc x a_Acc).data = .fields #[.ref a_Acc, .ref x, .ref a_Acc] := rfl
 have f0 : (#[.ref a_Acc, .ref x, .ref a_Acc] : Array Value)[0]? = some (.ref a_Acc) := rfl
 have f1 : (#[.ref a_Acc, .ref x, .ref a_Acc] : Array Value)[1]? = some (.ref x) := rfl
 have f2 : (#[.ref a_Acc, .ref x, .ref a_Acc] : Array Value)[2]? = some (.ref a_Acc) := rfl
 have ed : (([.ref a_Acc, .type "list", .type "object"] : List Value).dropWhile (· != .ref a_Acc)).drop 1 = [.type "list", .type "object"] := by decide
 unfold Builtin.«super.__getattribute__»
 repeat (first
  | (with_reducible refine wpAny_field hso hdt f0 ?_) | (with_reducible refine wpAny_field hso hdt f1 ?_) | (with_reducible refine wpAny_field hso hdt f2 ?_)
  | (with_reducible refine ks_wpAny_notOpaque (looks_opaque X hno) ?_)
  | (with_reducible refine st_mro X hc ?_; rw [ed])
  | (with_reducible refine st_own X ho ?_)
  | (with_reducible refine za6 X ht ?_)
  | (with_reducible refine zcj X hg ?_)
  | (simp only [hn, hne, List.forIn_cons, Bool.or_false, Bool.false_eq_true, if_false])
  | (ktn_no "no_call"; wp_step)
  | (ktn_no "no_call"; dsimp only))
 refine wpAny_mono q (fun v s' hv => ?_) (fun _ _ z => z)
 repeat (first | wp_step | dsimp only)
 exact hv
noncomputable abbrev bndO (bt id : String) (x : Addr) : Obj := ⟨.type bt, none, .fields #[.builtin id, .ref x], #[]⟩
theorem zew {id : String} {Q : Value → Shared → Prop} (X : (KF w.params).In h) (hx : h.get? x = some (accO dx vs n)) (ht : typeIn (KF w.params) (.builtin id) = some (.type "wrapper_descriptor"))
  (hi : subIn (KF w.params) (.ref a_Acc) (.type (".".intercalate (id.cutAt '.').dropLast)) = some true) (q : Q (.ref h.objs.size) ⟨h.push (bndO "method-wrapper" id x), g, d, tk, os⟩) :
  wpAny (M w) A (call (.builtin "wrapper_descriptor.__get__") [.builtin id, .ref x, .ref a_Acc]) Q E ⟨h, g, d, tk, os⟩ := by
 refine zav (i := "wrapper_descriptor.__get__") (owner := "wrapper_descriptor") (n := "__get__") (b := Builtin.«wrapper_descriptor.__get__») (by first | exact .inr (by decide +kernel) | exact .inl (by decide +kernel)) (by decide +kernel) (by decide +kernel) (entryFor_of_tree (by kernel_rfl)) (by unfold argsOk; kernel_rfl) ((looks_typeIn X ht).andThen (looks_subIn X (by ktn_no "k_ev"))) ?_
 unfold Builtin.«wrapper_descriptor.__get__»
 repeat (first | (with_reducible refine zbA hx X hi ?_) | (ktn_no "no_call"; ktn_no "st_one"))
 exact ⟨_, rfl, q⟩
theorem zhB {id : String} {Q : Value → Shared → Prop} (X : (KF w.params).In h) (hx : h.get? x = some (accO dx vs n)) (ht : typeIn (KF w.params) (.builtin id) = some (.type "method_descriptor")) (htc : Manifest.toldItsClass.contains id = false)
  (hi : subIn (KF w.params) (.ref a_Acc) (.type (".".intercalate (id.cutAt '.').dropLast)) = some true) (q : Q (.ref h.objs.size) ⟨h.push (bndO "builtin_function_or_method" id x), g, d, tk, os⟩) :
  wpAny (M w) A (call (.builtin "method_descriptor.__get__") [.builtin id, .ref x, .ref a_Acc]) Q E ⟨h, g, d, tk, os⟩ := by
 refine zav (i := "method_descriptor.__get__") (owner := "method_descriptor") (n := "__get__") (b := Builtin.«method_descriptor.__get__») (by first | exact .inr (by decide +kernel) | exact .inl (by decide +kernel)) (by decide +kernel) (by decide +kernel) (entryFor_of_tree (by kernel_rfl)) (by unfold argsOk; kernel_rfl) ((looks_typeIn X ht).andThen (looks_subIn X (by ktn_no "k_ev"))) ?_
 unfold Builtin.«method_descriptor.__get__»
 repeat (first | (with_reducible refine zbA hx X hi ?_) | (rw [htc]) | (ktn_no "no_call"; ktn_no "st_one"))
 exact ⟨_, rfl, q⟩
theorem zby {name : PySem.Str} {id : String} {pl : Sem Bool} {Q : Value × List Value → Shared → Prop} {b : Value} (X : (KF w.params).In h) (hxC : x ≠ a_Acc) (hso : h.get? so = some (ks_superObj a_Acc x a_Acc)) (hn : (name == ("__class__" : PySem.Str)) = false)
  (hc : (clsIn (KF w.params) a_Acc).map (·.mro) = some [.ref a_Acc, .type "list", .type "object"]) (ho : ownIn (KF w.params) name (.type "list") = some (some (.builtin id))) {tf g1 : Value} (ht : typeIn (KF w.params) (.builtin id) = some tf) (hg : findIn (KF w.params) tf "__get__" = some (some g1))
  (hno : nsIn (KF w.params) cStatics "thirdparty.any" = some none)
  (q : wpAny (M w) A.in1 (call g1 [.builtin id, .ref x, .ref a_Acc]) (fun v s' => v = .ref h.objs.size ∧ Q (v, []) s') (fun _ _ => False) ⟨h, g, d, tk + 1, os⟩) :
  wpAny (M w) A (getMethod (.ref so) name pl) Q E ⟨h, g, d, tk, os⟩ := by
 have hlk := PySem.F.ks_slot_super_ga.lookup
 have hcan := PySem.F.ks_canon_super_ga
 have hT : ∀ t', (⟨h, g, d, t', os⟩ : Shared).TypeIs (.ref so) "super" := fun _ => ⟨_, hso, rfl⟩
 unfold getMethod
 refine wpAny_bind (wpAny_specialOf (hT _) hlk ?_)
 show wpAny _ _ (if (Manifest.canonical "super.__getattribute__" != "object.__getattribute__") = true then _ else _) _ _ _
 (ktn_no "iP"; exact hcan)
 unfold getAttr getAttrBy
 refine wpAny_bind (wpAny_bind (wpAny_mkText (wpAny_holding (wpAny_bind (wpAny_typeOf (hT _) (wpAny_bind (wpAny_of_eq hlk ?_)))))))
 show wpAny _ _ (getAttrByItsOwn (.ref so) (.str name tk) (.type "super") (.builtin "super.__getattribute__") true false) _ _ _
 unfold getAttrByItsOwn hookBefore callGetattribute boundAndCalled
 refine wpAny_bind (wpAny_of_eq (show (if onTheHeap (.type "super") then typeLookup (.type "super") "__getattr__" else pure none) = pure none from rfl) ?_)
 refine wpAny_bind (wpAny_attempt (wpAny_holding ?_))
 show wpAny _ _ (bindSpecial (.builtin "super.__getattribute__") (.ref so) >>= _) _ _ _
 refine wpAny_bind (wpAny_of_eq (PySem.F.ks_slot_super_ga.bind _) ?_)
 refine wpAny_mono (Q := fun v s' => v = .ref h.objs.size ∧ Q (v, []) s') (E := fun _ _ => False)
  (wpAny_call_entry PySem.F.ks_slot_super_ga (hT _) PySem.F.ks_entry_super_ga (show wpAny (model pw w) A.in1 (Builtin.«super.__getattribute__» ⟨[.ref so, .str name tk], []⟩) _ _ ⟨h, g, d, tk + 1, os⟩ from sup_ga X hxC hso hn hc ho ht hg hno (wpAny_mono q (fun v s' hv => (show ∃ v', Fin.done (Flow.ret v) = Fin.done (Flow.ret v') ∧ v' = .ref h.objs.size ∧ Q (v', []) s' from ⟨v, rfl, hv⟩)) fun _ _ z => z)) (PySem.F.ks_gaArgs_super _ _)) (fun v s' hv => ?_) fun _ _ z => z.elim
 obtain ⟨rfl, hv⟩ := hv
 exact wpAny_pure (wpAny_pure hv)
end
section
variable {w : World} {B : Heap} {L : Addr} {m : PySem.Str → Option Value} {cl : List (PySem.Str × Addr)} {cm : PySem.Str → Option Value} {news : List (Addr × Obj)} {s₀ s : Shared}
theorem Fm.new (F : Fm w B L cl s₀ m cm news s) {h' : Heap} {o : Obj} (k : ∀ b ob, s.heap.get? b = some ob → h'.get? b = some ob) (hn : h'.get? s.heap.objs.size = some o) {tk : Nat} : Fm w B L cl s₀ m cm ((s.heap.objs.size, o) :: news) { s with heap := h', toks := tk } := by
 have G := F.grow (h' := h') (tk := tk) k (Nat.le_of_lt (Heap.lt_size hn))
 have lt : ∀ {a ob}, s.heap.get? a = some ob → a ≠ s.heap.objs.size := fun e q => absurd (Heap.lt_size e) (by rw [q]; exact Nat.lt_irrefl _)
 (refine x3_2 (F.ns) ?_; intro oL es ep hL _)
 refine { G with nw := fun p hp => ?_, nd := ?_, cd := fun n c hm => ?_ }
 ·rcases List.mem_cons.mp hp with rfl | hp
  ·refine ⟨hn, fun e => lt hL e.symm, ?_, Nat.le_trans F.szL (Nat.le_of_lt (Heap.lt_size hL))⟩
   cases q : B.get? s.heap.objs.size with
   | none => rfl
   | some o' => exact absurd rfl (lt (F.keep _ _ q))
  ·exact G.nw p hp
 ·refine List.nodup_cons.mpr ⟨fun q => ?_, F.nd⟩
  (refine x1_2 (List.mem_map.mp q) ?_; intro p hp e)
  exact lt (F.nw p hp).1 e
 ·(refine x0_3 (F.cd n c hm) ?_; intro a b c')
  refine ⟨a, fun q => ?_, c'⟩
  rcases List.mem_cons.mp q with e | q
  ·(refine x1_2 (F.ce n c hm) ?_; intro oc hoc _)
   exact lt hoc e
  ·exact b q
theorem K_lt {P : Params} {a : Addr} {o : Obj} (e : (KF P).lookup a = some o) : a < szTop := by
 have : ∀ l : List (Addr × Obj), l.all (fun p => decide (p.1 < szTop)) = true → l.lookup a = some o → a < szTop := fun l hl e => by
  induction l with
  | nil => cases e
  | cons p r ih =>
   obtain ⟨b, x⟩ := p
   simp only [List.all_cons, Bool.and_eq_true, decide_eq_true_eq] at hl
   simp only [List.lookup] at e
   split at e
   ·rename_i q; rw [beq_iff_eq.mp q]; exact hl.1
   ·exact ih hl.2 e
 exact this _ (by kernel_rfl) e
theorem Fm.nK (F : Fm w B L cl s₀ m cm news s) {p : Addr × Obj} (hp : p ∈ news) {a : Addr} (ha : a < szTop) : p.1 ≠ a := fun e => absurd ha (by rw [← e]; exact Nat.not_lt.mpr (F.nw p hp).2.2.2)
end
noncomputable def fileIn (K : Frag) (cd : Value) (file : PySem.Str) : Bool := match cd with
 | .ref c => (match K.lookup c with
  | some ⟨_, _, .fields vs, _⟩ => (match (vs[2]? : Option Value) with
   | some (Value.str f _) => file == f
   | _ => false)
  | _ => false)
 | _ => false
section
variable {w : World} {B : Heap} {L : Addr} {m : PySem.Str → Option Value} {cl : List (PySem.Str × Addr)} {cm : PySem.Str → Option Value} {news : List (Addr × Obj)} {s₀ s : Shared} {A : Around} {E : Value → Shared → Prop} {Q : Value → Shared → Prop}
theorem zbB {n : Nat} {f : Addr} {oc : Value} {od : Option Addr} {osl : Array (Option Value)} {fd : FuncData} {body : List Stmt} {pos : List Value} {kw : List (PySem.Str × Value)} {binds : List (PySem.Str × Value)} {cmF : PySem.Str → Option Value}
  (R : Room (n + 1) A) (F : Fm w B L cl s₀ m cm news s)
  (ho : (KF w.params).lookup f = some ⟨oc, od, .func fd, osl⟩) (hcd : codeIn (KF w.params) fd.code fd.qualname = true) (hbody : fd.body = .stmts body) (hbind : BindsTo s fd ⟨pos, kw⟩ binds)
  (hcell : (fd.scope.names.all fun x => decide (x.2 ≠ .cell)) = true) (hloc : (binds.all fun x => decide (fd.scope.names.lookup x.1 = some .local)) = true)
  (hcl : ∀ n c, fd.closure.lookup n = some c → c < szTop ∧ ¬ Tab c ∧ ∃ o, (KF w.params).lookup c = some o ∧ o.data = .cell (cmF n)) (hcp : ∀ n n' c, fd.closure.lookup n = some c → fd.closure.lookup n' = some c → n = n')
  (h : ∀ Qo : Flow → Shared → Prop, (∀ fl s', Back w B L m cl cm news s₀ s Q (retV fl) s' → Qo fl s') → ∀ L' s₁, L' = s.heap.objs.size → Fm w (under s news) L' fd.closure s (bnd binds) cmF news s₁ → Room n (A.deeper (callEnv fd L' f)) →
   _root_.PySem.wpAt (M w) (A.deeper (callEnv fd L' f)) (.func body (callEnv fd L' f)) (execs body (callEnv fd L' f)) Qo (fun _ _ => False) s₁)
  (hco : fd.scope.isCoroutine = false) (hgen : fd.scope.isGenerator = false) (hk : fd.scope.kind = .function) : wpAny (M w) A (call (.ref f) pos kw) Q E s := by
 have X := F.K
 refine wpAny_call (ks_codeAny_call_defAt (fd := fd) (body := body) (binds := binds) R.lt (X _ _ ho) rfl (F.wf.nl.keeps F.keep) (codeRec_of X hcd) hbody hbind
  (fun x hx => of_decide_eq_true (List.all_eq_true.mp hcell x hx)) (locs hloc) (fun h₁ hns hk₁ => ?_) hco hgen hk)
 have hz : s.heap.objs.size < h₁.objs.size := hns.lt
 refine ks_wpAt_mono (h _ (fun _ _ x => x) s.heap.objs.size _ rfl (F.enter rfl hns hk₁ (Nat.le_of_lt hz) (fun n c e => ?_) (fun n c e => ?_) hcp) R.deeper) (fun fl s' hb => ?_) (fun _ _ x => x.elim)
 ·obtain ⟨_, _, o, ho, hd⟩ := hcl n c e
  exact ⟨o, hk₁ _ _ (X _ _ ho), hd⟩
 ·obtain ⟨hs, hT, o, ho, hd⟩ := hcl n c e
  refine ⟨Nat.ne_of_lt (Heap.lt_size (X _ _ ho)), fun q => ?_, hT⟩
  (refine x1_2 (List.mem_map.mp q) ?_; intro p hp e')
  exact absurd hs (by rw [← e']; exact Nat.not_lt.mpr (F.nw p hp).2.2.2)
 ·cases fl <;> exact hb.go F
end
section
variable {w : World} {B : Heap} {L : Addr} {m : PySem.Str → Option Value} {cm : PySem.Str → Option Value} {news : List (Addr × Obj)} {s₀ : Shared} {A : Around} {E : Value → Shared → Prop} {Q : Value → Shared → Prop}
 {h : Heap} {g : Array GenState} {d : Drawn} {tk : Nat} {os : OsState} {x dx f cc : Addr} {vs : List Value} {n : Nat}
theorem zcX {fd : FuncData} {oc : Value} {od : Option Addr} {osl : Array (Option Value)} {ar : Arg} {body : List Stmt} {p0 p1 : Pos} {attr : PySem.Str} {whole : Sem Value} {cdD : ClassData}
  {tk₀ : Nat} (F : Fm w B L fd.closure s₀ m cm news ⟨h, g, d, tk₀, os⟩) (hf : (KF w.params).lookup f = some ⟨oc, od, .func fd, osl⟩) (hfile : fileIn (KF w.params) fd.code (pw.main.file : PySem.Str) = true) (hp : (fd.params.posonlyargs ++ fd.params.args).head? = some ar)
  (hv : m ar.arg = some (.ref x)) (hc : fd.closure.lookup ("__class__" : PySem.Str) = some cc) (hcm : cm ("__class__" : PySem.Str) = some (.ref a_Acc)) (hx : h.get? x = some (accO dx vs n)) (hD : clsIn (KF w.params) a_Acc = some cdD) (hsub : mroIn (KF w.params) a_Acc (.ref a_Acc) = some true) (hsuper : nsIn (KF w.params) mainGlobals "super" = some none)
  (hat : (attr == ("__class__" : PySem.Str)) = false) (hks : (callEnv fd L f).kindOf ("super" : PySem.Str) = some .globalImplicit) (hkc : (callEnv fd L f).kindOf ("__class__" : PySem.Str) = some .free) (hka : (callEnv fd L f).kindOf ar.arg = some .local) (hk : fd.scope.kind = .function) (hg : fd.globals = mainGlobals) (hb : fd.builtins = builtinsNs)
  (htop : (pw.main.scope.names.lookup ("super" : PySem.Str)).isSome = false) (hboot : bootBuiltins "super" = some (.type "super"))
  (q : ∀ h', Fm w B L fd.closure s₀ m cm ((h.objs.size, ks_superObj a_Acc x a_Acc) :: news) ⟨h', g, d, tk, os⟩ → Q (.ref h.objs.size) ⟨h', g, d, tk, os⟩) :
  _root_.PySem.wpAt (M w) A (.func body (callEnv fd L f)) (attributeBase (.Call (.Name "super" p0) [] [] p1) attr (callEnv fd L f) whole) Q E ⟨h, g, d, tk, os⟩ := by
 have X := F.K
 obtain ⟨oD, hD1, hD2⟩ : ∃ oD, h.get? a_Acc = some oD ∧ oD.data = .cls cdD := by
  unfold clsIn at hD
  split at hD
  ·rename_i c d cd' sl ho
   cases hD
   exact ⟨_, X _ _ ho, rfl⟩
  ·cases hD
 unfold fileIn at hfile
 split at hfile
 case h_2 => cases hfile
 rename_i cda hcda
 split at hfile
 case h_2 => cases hfile
 rename_i c1 c2 vs1 c3 hoc
 split at hfile
 case h_2 => cases hfile
 rename_i fl tf hvs
 obtain ⟨mg, hmg⟩ := F.wf.g
 (refine x1_2 (F.wf.b) ?_; intro mb hmb hbb)
 refine ks_wpAt_super_base (env := callEnv fd L f) (fd := fd) hks hkc hat rfl (X _ _ hf) rfl hp hcda (X _ _ hoc) rfl hvs hfile htop ?_
 refine ks_loadName_global (env := callEnv fd L f) hk hks (loadGlobal_builtin (env := callEnv fd L f) (mg := mg) (mb := mb) (by show h.Ns fd.globals mg; rw [hg]; exact hmg.keeps F.keep) (mg_none_of F.wf.k hmg hsuper) (by show h.Ns fd.builtins mb; rw [hb]; exact hmb.keeps F.keep) ((hbb _ (by decide +kernel)).trans hboot) ⟨rfl, ?_⟩)
 refine wpAny_loadName_free (env := callEnv fd L f) hk hkc hc (hcm ▸ F.ce _ _ hc) ?_
 refine wpAny_loadName_local (env := callEnv fd L f) hk hka F.ns hv ?_
 refine ks_wpAny_isType_cls hD1 hD2 ⟨rfl, ?_⟩
 refine ks_wpAny_call_super hD1 hD2 hx rfl (fun c e => (by cases e)) (looks_mroIn X hsub) (fun h' e k => ?_)
 exact q h' (Fm.new (F.withD (d := d) (tk := tk)) (h' := h') k e (tk := tk))
theorem zcQ {bo : Addr} {bt id : String} {Bi : Builtin} {args : List Value} (hb : h.get? bo = some (bndO bt id x)) (hbt : bt = "method-wrapper" ∨ bt = "builtin_function_or_method") (hq : plainId id = true) (hen : entryFor table id = some Bi)
  (hck : ∀ (A : Around) (Q : Unit → Shared → Prop) (E : Value → Shared → Prop), Q () ⟨h, g, d, tk, os⟩ → wpAny (M w) A (checkBoundCall id ⟨.ref x :: args, []⟩) Q E ⟨h, g, d, tk, os⟩)
  (hc : wpAny (M w) A.in1 (Bi ⟨.ref x :: args, []⟩) (fun fin s' => ∃ v, fin = .done (.ret v) ∧ Q v s') E ⟨h, g, d, tk, os⟩) : wpAny (M w) A (call (.ref bo) args) Q E ⟨h, g, d, tk, os⟩ := by
 refine wpAny_call (codeAny_of_tree ?_)
 show wpAny _ A.in1 (callAny (.ref bo) ⟨args, []⟩) _ _ _
 unfold callAny
 refine wpAny_bind (wpAny_load hb ?_)
 dsimp only
 have e1 : (Value.type bt == Value.type "method" || Value.type bt == Value.type "builtin_function_or_method" || Value.type bt == Value.type "method-wrapper") = true := by rcases hbt with rfl | rfl <;> decide
 have e2 : (Value.type bt != Value.type "method") = true := by rcases hbt with rfl | rfl <;> decide
 rw [e1, if_pos rfl]
 show wpAny _ A.in1 (if (Value.type bt != Value.type "method") = true then _ else _) _ _ _
 rw [e2, if_pos rfl]
 refine wpAny_bind (hck _ _ _ (wpAny_pure ⟨plainId_quiet hq _, codeAny_builtin hen ?_⟩))
 rw [Around.under_plainId hq _]
 refine wpAny_mono hc (fun fin s' hv => ?_) fun _ _ z => z
 (refine x1_2 (hv) ?_; try clear hv; intro v eqX1 hv; subst eqX1)
 exact hv
end
section
variable {prog : Program} {w : World} {A : Around} {c : Code} {E : Value → Shared → Prop} {s : Shared} {env : Env} {pos : Pos} {e : Expr} {rest : List Expr}
theorem mc_at {o : Expr} {name : PySem.Str} {apos : Pos} {args : List Expr} {Q : Value → Shared → Prop}
  (h : _root_.PySem.wpAt (model prog w) A c (attributeBase o name env (eval o env)) (fun ov s₁ => wpAny (model prog w) A (getMethod ov name (do return (← importBound o env).getD true)) (fun fx s₂ => wpAny (model prog w) A (callWith pos fx.1 fx.2 (backTo pos (starEach args env)) []) Q E s₂) E s₁) E s)
  (hfew : methodCallForm (args.length + ([] : List Keyword).length) (backTo pos (starEach args env)) (backToKw pos (keywordEach [] env)) = true) (hline : (apos.endLine == pos.line) = true) :
  _root_.PySem.wpAt (model prog w) A c (eval (.Call (.Attribute o name apos) args [] pos) env) Q E s := by
 rw [arm_eval_Call]
 refine _root_.PySem.wpAt_bind (_root_.PySem.wpAt_mono h (fun ov s₁ h₁ => ?_) fun _ _ e => e)
 refine _root_.PySem.wpAt_of_wpAny (wpAny_bind (wpAny_standAt ?_))
 have hpos : methodCallPos true o env apos pos = pure pos := by unfold methodCallPos; simp [hline]
 unfold methodCall
 rw [hfew]
 refine wpAny_bind (wpAny_holding (wpAny_mono h₁ (fun fx s₂ h₂ => ?_) fun _ _ e => e))
 exact wpAny_bind (wpAny_of_eq hpos h₂)
theorem cw_bnd0 {bo x : Addr} {bt id : String} {Q : Value → Shared → Prop} (hb : s.heap.get? bo = some (bndO bt id x)) (hbt : bt = "method-wrapper" ∨ bt = "builtin_function_or_method") (h : wpAny (model prog w) A (call (.ref bo) []) Q E s) :
  wpAny (model prog w) A (callWith pos (.ref bo) [] (backTo pos (starEach [] env)) []) Q E s := by
 refine callWith_of (P := fun h => h.get? bo = some (bndO bt id x)) rfl (fun h e => ⟨.machine, .inr (.inl rfl), ?_⟩) (evalArgs_nil3 ⟨hb, by simpa using h⟩)
 unfold keeperOf
 refine (Looks.ld (part := none) e).andThen ?_
 rcases hbt with rfl | rfl <;> exact .now
end
theorem clo1 {P : Params} {cl : List (PySem.Str × Addr)} {cc : Addr} {cmF : PySem.Str → Option Value} {o : Obj} (e : cl = [(("__class__" : PySem.Str), cc)]) (hK : (KF P).lookup cc = some o) (hd : o.data = .cell (cmF "__class__")) (hT : (cc == T1 || cc == T2) = false) :
  (∀ n c, cl.lookup n = some c → c < szTop ∧ ¬ Tab c ∧ ∃ o, (KF P).lookup c = some o ∧ o.data = .cell (cmF n)) ∧ (∀ n n' c, cl.lookup n = some c → cl.lookup n' = some c → n = n') := by
 subst e
 have hn : ∀ n c, ([(("__class__" : PySem.Str), cc)] : List (PySem.Str × Addr)).lookup n = some c → n = "__class__" ∧ c = cc := fun n c e => by
  simp only [List.lookup] at e
  split at e
  ·rename_i q; cases e; exact ⟨beq_iff_eq.mp q, rfl⟩
  ·cases e
 refine ⟨fun n c e => ?_, fun n n' c e e' => ((hn n c e).1).trans ((hn n' c e').1).symm⟩
 obtain ⟨rfl, rfl⟩ := hn n c e
 refine ⟨K_lt hK, fun t => ?_, o, hK, hd⟩
 simp only [Bool.or_eq_false_iff, beq_eq_false_iff_ne] at hT
 rcases t with rfl | rfl
 ·exact hT.1 rfl
 ·exact hT.2 rfl
noncomputable abbrev a_cc : Addr := (fd_Acc_part_count.closure.headD default).2
noncomputable abbrev cmC : PySem.Str → Option Value := fun n => if n = "__class__" then some (.ref a_Acc) else none
section
variable {w : World} {B : Heap} {L : Addr} {m : PySem.Str → Option Value} {cl : List (PySem.Str × Addr)} {cm : PySem.Str → Option Value} {own rest news : List (Addr × Obj)} {s₀ s : Shared} {A : Around} {E : Value → Shared → Prop} {Q : Value → Shared → Prop} {n : Nat} {x : Addr} {its : List (PySem.Str × PySem.Str)} {init : Int}
theorem cc_K (P : Params) : (KF P).lookup a_cc = some ⟨.type "cell", none, .cell (some (.ref a_Acc)), #[]⟩ := by kernel_rfl
theorem zaV (R : Room (n + 5) A) (F : Fm w B L cl s₀ m cm (own ++ rest) s) (P : AccP x its init own)
  (h : ∀ t s', Fm w B L cl s₀ m cm (own ++ rest) s' → Q (.int its.length t) s') :
  wpAny (M w) A (call (.ref a_Acc_part_count) [.ref x] []) Q E s := by
 have CL := clo1 (P := w.params) (cl := fd_Acc_part_count.closure) (cc := a_cc) (cmF := cmC) (by kernel_rfl) (cc_K _) rfl (by decide)
 refine zbB (binds := [("self", .ref x)]) (fd := fd_Acc_part_count) (cmF := cmC) R F (zaK _) (zbt _) rfl (BindsTo.of_eq rfl) (by decide) (by kernel_rfl) CL.1 CL.2 ?_ rfl rfl rfl
 obtain ⟨dx, n, k, vs, l, es, t, rfl, hE, hT⟩ := P
 intro Qo hQo L' s₁ hL F₁ R₁
 obtain ⟨h₁, g₁, d₁, k₁, o₁⟩ := s₁
 have X := F₁.K
 have hx := F₁.at 0 rfl
 have hd := F₁.at 1 rfl
 ktn_no "ast_at"
 refine ks_wpAt_execs_cons (ks_wpAt_Return_some (mc_at ?_ (by kernel_rfl) (by kernel_rfl)))
 refine zcX (cc := a_cc) F₁ (zaK _) (by kernel_rfl) (by ktn_no "k_val") (by ktn_no "k_val") (by kernel_rfl) (by kernel_rfl) hx (by ktn_no "k_ev") (by ktn_no "k_ev") (by ktn_no "k_ev") (by decide) (by kernel_rfl) (by kernel_rfl) (by kernel_rfl) rfl rfl rfl (by decide +kernel) (by first | boot_by_name | kernel_rfl) fun h₂ F₂ => ?_
 dsimp only
 have hx₂ := F₂.at 1 rfl
 have hso₂ := F₂.at 0 rfl
 refine zby (b := .none) F₂.K (F₂.nK (p := (x, _)) (.tail _ (.head _)) (by decide)) hso₂ (by decide) (by ktn_no "k_ev") (by ktn_no "k_ev") (by ktn_no "k_ev") (by ktn_no "k_ev") (by ktn_no "k_ev") ?_
 refine zew F₂.K hx₂ (by ktn_no "k_ev") (by ktn_no "k_ev") ⟨rfl, ?_⟩
 have F₃ := Fm.push F₂ (bndO "method-wrapper" "list.__len__" x) (tk := k₁)
 have hb₃ := F₃.at 0 rfl
 have hx₃ := F₃.at 2 rfl
 dsimp only
 refine cw_bnd0 hb₃ (.inl rfl) ?_
 refine zcQ (Bi := Builtin.«list.__len__») hb₃ (.inl rfl) (by decide +kernel) (entryFor_of_tree (by kernel_rfl)) (fun A Q E q => ?_) ?_
 ·exact wpAny_of_eq (show checkBoundCall "list.__len__" ⟨[.ref x], []⟩ = pure () by kernel_rfl) q
 unfold Builtin.«list.__len__»
 ktn_no "go"
 refine ⟨_, rfl, ?_⟩
 refine hQo _ _ <| Back.of ((F₃.drop 2).toks (k₁ + 2)) fun G => ?_
 have := h (k₁ + 1) _ G
 simpa [retV, hT.len] using this
end
theorem zdt {α : Type} {l : List α} {a d : α} : (l ++ [a]).getLastD d = a := by
 rw [List.getLastD_eq_getLast?]; simp
theorem chk_pop {w : World} {A : Around} {E : Value → Shared → Prop} {x dx : Addr} {vs : List Value} {n : Nat} {h : Heap} {g : Array GenState} {d : Drawn} {tk : Nat} {os : OsState} {Q : Unit → Shared → Prop} (X : (KF w.params).In h) (hx : h.get? x = some (accO dx vs n)) (q : Q () ⟨h, g, d, tk, os⟩) :
  wpAny (M w) A (checkBoundCall "list.pop" ⟨[.ref x], []⟩) Q E ⟨h, g, d, tk, os⟩ := by
 obtain ⟨S, hS, hc⟩ : ∃ S, Manifest.signature? "list.pop" = some S ∧ Bind.checkArgs "list.pop" { S with full := "_Accumulator.pop" } ⟨[.ref x], []⟩ = pure () := ⟨_, by ktn_no "k_ev", by kernel_rfl⟩
 have hk : builtinKind "list.pop" = some .method := by decide +kernel
 have hv : Manifest.varargsMethods.contains "list.pop" = false := by decide +kernel
 unfold checkBoundCall
 rw [hS]
 dsimp only
 rw [hk]
 dsimp only
 (ktn_no "iN"; exact (by decide))
 refine wpAny_bind (zbA hx X (by ktn_no "k_ev") ?_)
 rw [hv, if_neg (by decide)]
 refine wpAny_bind (ks_wpAny_isType_inst hx (fun c e => by cases e) ?_)
 (ktn_no "iN"; exact (by decide))
 refine wpAny_bind (zbh hx ?_)
 dsimp only
 obtain ⟨cd, hcd, hqn⟩ : ∃ cd, clsIn (KF w.params) a_Acc = some cd ∧ (toString cd.qualname.toString ++ toString "." ++ toString (Bind.lastOf "list.pop")) = "_Accumulator.pop" := ⟨_, by ktn_no "k_ev", by kernel_rfl⟩
 refine wpAny_bind (st_cd X hcd ?_)
 rw [hqn]
 refine wpAny_bind (za6 X (by ktn_no "k_ev") ?_)
 (ktn_no "iP"; exact (by decide))
 exact wpAny_of_eq hc q
theorem Tups.one {f p : PySem.Str} {v : List Value} {l : List (Addr × Obj)} (h : Tups [(f, p)] v l) : ∃ q t1 t2, v = [.ref q] ∧ l = [(q, tupO [.str f t1, .str p t2])] := by
 cases h with
 | cons h => cases h; exact ⟨_, _, _, rfl, rfl⟩
section
variable {w : World} {B : Heap} {L : Addr} {m : PySem.Str → Option Value} {cl : List (PySem.Str × Addr)} {cm : PySem.Str → Option Value} {own rest news : List (Addr × Obj)} {s₀ s : Shared} {A : Around} {E : Value → Shared → Prop} {Q : Value → Shared → Prop} {n : Nat} {x : Addr} {its : List (PySem.Str × PySem.Str)} {init : Int}
theorem zbn (R : Room (n + 12) A) (F : Fm w B L cl s₀ m cm (own ++ rest) s) (P : AccP x its init own) (hz : its.length ≤ 900)
  (h : ∀ own' q t1 t2 s', AccP x its.dropLast init own' → Fm w B L cl s₀ m cm ((q, tupO [.str (its.getLastD ("", "")).1 t1, .str (its.getLastD ("", "")).2 t2]) :: own' ++ rest) s' → Q (.ref q) s') :
  wpAny (M w) A (call (.ref a_Acc_pop) [.ref x] []) Q E s := by
 have CL := clo1 (P := w.params) (cl := fd_Acc_pop.closure) (cc := a_cc) (cmF := cmC) (by kernel_rfl) (cc_K _) rfl (by decide)
 refine zbB (binds := [("self", .ref x)]) (fd := fd_Acc_pop) (cmF := cmC) R F (zcD _) (ze4 _) rfl (BindsTo.of_eq rfl) (by decide) (by kernel_rfl) CL.1 CL.2 ?_ rfl rfl rfl
 intro Qo hQo L' s₁ hL F₁ R₁
 obtain ⟨h₁, g₁, d₁, k₁, o₁⟩ := s₁
 have X := F₁.K
 have P₀ := P
 obtain ⟨dx, nn, k, vs, l, es, t, rfl, hE, hT⟩ := P
 have hx := F₁.at 0 rfl
 have hd := F₁.at 1 rfl
 ktn_no "ast_at"
 refine ks_wpAt_execs_cons (_root_.PySem.wpAt_of_wpAny ?_)
 ktn_no "w"
 refine za9 X hx hd hE (by ktn_no "k_ev") (by ktn_no "k_ev") (by decide +kernel) (by ktn_no "k_ev") ?_
 dsimp only
 refine cw_f0 X (by kernel_rfl) ?_
 refine zaV (n := n + 6) (R₁.less (by ktn_no "le")) F₁ P₀ fun t' s' F₂ => ?_
 obtain ⟨h₂, g₂, d₂, k₂, o₂⟩ := s'
 ktn_no "w"
 have hx₂ := F₂.at 0 rfl
 have hd₂ := F₂.at 1 rfl
 clear X hx hd P₀ CL F₁
 obtain rfl | ⟨its0, ⟨f, p⟩, rfl⟩ : its = [] ∨ ∃ i y, its = i ++ [y] := by
  rcases List.eq_nil_or_concat its with e | ⟨i, y, e⟩
  ·exact .inl e
  ·exact .inr ⟨i, y, e.trans List.concat_eq_append⟩
 ·cases hT
  (ktn_no "iP"; exact (by decide))
  ktn_no "w"
  refine zae (by simp) ?_
  refine hQo _ _ <| Back.of (Fm.push F₂ _ (tk := _)) fun G => ?_
  exact h [(x, accO dx [] nn), (dx, dictOf es k)] h₂.objs.size _ _ _ ⟨_, _, _, _, _, _, _, rfl, hE, .nil⟩ G
 ·(ktn_no "iN"; exact (by simp; ktn_no "o4"))
  ktn_no "w"
  (refine x4_4 (hT.split) ?_; intro va vb la lb eqX4 eqX5 h1 h2; subst eqX4; subst eqX5)
  (refine x3_2 (h2.one) ?_; intro q t1 t2 eqX3 eqX4; subst eqX3; subst eqX4)
  have hla := h1.len
  simp only [List.length_append, List.length_singleton] at hz
  dsimp only
  ktn_no "ast_at"
  refine ks_wpAt_execs_cons (ks_wpAt_Return_some (mc_at ?_ (by kernel_rfl) (by kernel_rfl)))
  refine zcX (cc := a_cc) F₂ (zcD _) (by kernel_rfl) (by ktn_no "k_val") (by ktn_no "k_val") (by kernel_rfl) (by kernel_rfl) hx₂ (by ktn_no "k_ev") (by ktn_no "k_ev") (by ktn_no "k_ev") (by decide) (by kernel_rfl) (by kernel_rfl) (by kernel_rfl) rfl rfl rfl (by decide +kernel) (by first | boot_by_name | kernel_rfl) fun h₃ F₃ => ?_
  dsimp only
  have hx₃ := F₃.at 1 rfl
  have hso₃ := F₃.at 0 rfl
  refine zby (b := .none) F₃.K (F₃.nK (p := (x, _)) (.tail _ (.head _)) (by decide)) hso₃ (by decide) (by ktn_no "k_ev") (by ktn_no "k_ev") (by ktn_no "k_ev") (by ktn_no "k_ev") (by ktn_no "k_ev") ?_
  refine zhB F₃.K hx₃ (by ktn_no "k_ev") (by decide +kernel) (by ktn_no "k_ev") ⟨rfl, ?_⟩
  have F₄ := Fm.push F₃ (bndO "builtin_function_or_method" "list.pop" x) (tk := k₂ + 1)
  have hb₄ := F₄.at 0 rfl
  have hx₄ := F₄.at 2 rfl
  dsimp only
  refine cw_bnd0 hb₄ (.inr rfl) ?_
  refine zcQ (Bi := Builtin.«list.pop») hb₄ (.inr rfl) (by decide +kernel) (entryFor_of_tree (by kernel_rfl)) (fun A Q E q => ?_) ?_
  ·exact chk_pop F₄.K hx₄ q
  refine zf7 hx₄ (by ktn_no "om") fun h' n' hs hx' => ?_
  have F₅ := ((F₄.set (i := 2) rfl hs hx' (tk := k₂ + 1)).drop 2)
  refine hQo _ _ <| Back.of (Fm.toks (F₅.perm (news' := (q, tupO [.str f t1, .str p t2]) :: ((x, accO dx va n') :: (dx, dictOf es k) :: la) ++ rest) ?_) _) fun G => ?_
  ·simp only [List.cons_append, List.set, List.drop]
   ktn_no "perm_tac"
  ·refine h ((x, accO dx va n') :: (dx, dictOf es k) :: la) q t1 t2 _ ⟨_, _, _, _, _, _, _, rfl, hE, ?_⟩ ?_
   ·simpa using h1
   ·rw [zdt]; simpa using G
end
noncomputable abbrev itO (x : Addr) (i : Nat) : Obj := ⟨.type "list_iterator", none, .fields #[.ref x, .int i 0], #[]⟩
section
variable {w : World} {A : Around} {E : Value → Shared → Prop} {x dx I : Addr} {vs : List Value} {n : Nat} {h : Heap} {g : Array GenState} {d : Drawn} {tk : Nat} {os : OsState}
theorem zgf {o : Obj} {Q : Option Value → Shared → Prop} {i : Nat} {v : Value} (hI : h.get? I = some (itO x i)) (hx : h.get? x = some o) (hd : o.data = .seq vs.toArray n) (hv : vs[i]? = some v)
  (q : ∀ h', Heap.SameBut I h h' → h'.get? I = some (itO x (i + 1)) → Q (some v) ⟨h', g, d, tk, os⟩) : wpAny (M w) A (pyNext (.ref I)) Q E ⟨h, g, d, tk, os⟩ := by
 have hT : Shared.TypeIs ⟨h, g, d, tk, os⟩ (.ref I) "list_iterator" := ⟨_, hI, rfl⟩
 have hv' : vs.toArray[i]? = some v := by simpa using hv
 unfold pyNext
 refine wpAny_bind (wpAny_attempt (wpAny_callSpecial?_slot (name := Str.ofString "__next__") hT slot_listiter_next (wpAny_call_entry slot_listiter_next hT entry_listiter_next ?_ (args_listiter_next _))))
 show wpAny _ _ (field (.ref I) 0 >>= _) _ _ _
 refine wpAny_bind (wpAny_field hI rfl (x := .ref x) rfl ?_)
 show wpAny _ _ (if (Value.ref x == Value.none) = true then _ else _) _ _ _
 (ktn_no "iN"; exact (show ¬ ((Value.ref x == Value.none) = true) from Bool.false_ne_true))
 show wpAny _ _ (field (.ref I) 1 >>= _) _ _ _
 refine wpAny_bind (wpAny_field hI rfl (x := .int i 0) rfl ?_)
 show wpAny _ _ (seqItems? (.ref x) >>= _) _ _ _
 refine wpAny_bind (wpAny_seqItems hx hd ?_)
 simp only [Int.toNat_natCast, hv']
 exact wpAny_bind (wpAny_setField_rec hI (by simp) fun h' e s => wpAny_pure ⟨v, rfl, wpAny_pure (q h' s (by rw [e]; simp [rawInt]))⟩)
theorem it_end {o : Obj} {Q : Option Value → Shared → Prop} {i : Nat} (hh : A.handled = none) (hI : h.get? I = some (itO x i)) (hx : h.get? x = some o) (hd : o.data = .seq vs.toArray n) (hv : vs.length ≤ i)
  (q : ∀ h', (∀ b ob, b ≠ I → h.get? b = some ob → h'.get? b = some ob) → Q none ⟨h', g, d, tk, os⟩) : wpAny (M w) A (pyNext (.ref I)) Q E ⟨h, g, d, tk, os⟩ := by
 have hT : Shared.TypeIs ⟨h, g, d, tk, os⟩ (.ref I) "list_iterator" := ⟨_, hI, rfl⟩
 have hv' : vs.toArray[i]? = none := by simpa using hv
 unfold pyNext
 refine wpAny_bind (wpAny_attempt (wpAny_callSpecial?_slot (name := Str.ofString "__next__") hT slot_listiter_next (wpAny_call_entry slot_listiter_next hT entry_listiter_next ?_ (args_listiter_next _))))
 show wpAny _ _ (field (.ref I) 0 >>= _) _ _ _
 refine wpAny_bind (wpAny_field hI rfl (x := .ref x) rfl ?_)
 show wpAny _ _ (if (Value.ref x == Value.none) = true then _ else _) _ _ _
 (ktn_no "iN"; exact (show ¬ ((Value.ref x == Value.none) = true) from Bool.false_ne_true))
 show wpAny _ _ (field (.ref I) 1 >>= _) _ _ _
 refine wpAny_bind (wpAny_field hI rfl (x := .int i 0) rfl ?_)
 show wpAny _ _ (seqItems? (.ref x) >>= _) _ _ _
 refine wpAny_bind (wpAny_seqItems hx hd ?_)
 simp only [Int.toNat_natCast, hv']
 refine wpAny_bind (wpAny_rule (wpAny_bind (wpAny_setField_rec hI (by simp) fun h' e s => ?_)))
 show wpAny _ _ (newExc (.type "StopIteration") [] >>= _) _ _ _
 refine wpAny_bind ?_
 simp only [newExc, newTuple]
 refine wpAny_bind (wpAny_newObj_type ?_ (by size_fits))
 refine wpAny_bind (m := firstArgMember _ _) (wpAny_of_eq (a := Value.none) (by first | rfl | (simp only [firstArgMember]; rfl)) ?_)
 refine wpAny_newObj_type ?_ (by size_fits)
 simp only [raiseNew]
 refine wpAny_bind (wpAny_handled ?_)
 rw [show A.in1.handled = none from hh]
 refine wpAny_bind (wpAny_pure (wpAny_throw ?_))
 refine wpAny_bind (wpAny_isInstance (T := "StopIteration") (b := true) ⟨_, Heap.get?_push_size _ rfl, rfl⟩ isSubtype_stop ?_)
 exact wpAny_pure (q _ fun b ob hb e => Heap.get?_push_of_some _ (Heap.get?_push_of_some _ ((s.2 b hb).trans e)))
end
theorem Tups.get {its : List (PySem.Str × PySem.Str)} {vs : List Value} {l : List (Addr × Obj)} (h : Tups its vs l) : ∀ {i : Nat} {f p : PySem.Str}, its[i]? = some (f, p) → ∃ (q : Addr) (t1 t2 : Tok), vs[i]? = some (Value.ref q) ∧ (q, tupO [.str f t1, .str p t2]) ∈ l := by
 induction h with
 | nil => intro i f p e; simp at e
 | cons x ih =>
  intro i f p e
  cases i with
  | zero => simp at e; obtain ⟨rfl, rfl⟩ := e; exact ⟨_, _, _, rfl, .head _⟩
  | succ i =>
   (refine x3_2 (ih (i := i) (by simpa using e)) ?_; intro q t1 t2 a b)
   exact ⟨q, t1, t2, by simpa using a, .tail _ b⟩
section
variable {w : World} {x dx I : Addr} {vs : List Value} {n : Nat} {its : List (PySem.Str × PySem.Str)} {l : List (Addr × Obj)}
noncomputable def aSt (x I dx : Addr) (vs : List Value) (n : Nat) (l : List (Addr × Obj)) (i : Nat) (h : Heap) : Prop := h.get? I = some (itO x i) ∧ h.get? x = some (accO dx vs n) ∧ ∀ p ∈ l, h.get? p.1 = some p.2
noncomputable def aPt (its : List (PySem.Str × PySem.Str)) (i : Nat) (vals : Array Value) : Prop := ∃ f p t1 t2, its[i]? = some (f, p) ∧ vals = #[.str f t1, .str p t2]
theorem zfD (hT : Tups its vs l) (hxI : x ≠ I) (hlI : ∀ p ∈ l, p.1 ≠ I) (A : Around) (hh : A.handled = none) :
  WalksU pw w A I (I :: x :: l.map (·.1)) [I] its.length (aPt its) (aSt x I dx vs n l) (fun i T h => aSt x I dx vs n l (i + 1) h ∧ T ≠ I) where
 sub := fun b hb => by simp at hb; subst hb; exact .head _
 frame := fun i h h' ⟨a, b, c⟩ k => ⟨k _ (.head _) _ a, k _ (.tail _ (.head _)) _ b, fun p hp => k _ (.tail _ (.tail _ (List.mem_map_of_mem hp))) _ (c p hp)⟩
 item := fun i s Q E hi ⟨a, b, c⟩ hQ => by
  obtain ⟨⟨f, p⟩, hfp⟩ : ∃ y, its[i]? = some y := ⟨_, List.getElem?_eq_getElem hi⟩
  (refine x3_2 (hT.get hfp) ?_; intro q t1 t2 e1 e2)
  obtain ⟨h, g, d, tk, os⟩ := s
  refine zgf a b rfl e1 fun h' hs hI' => hQ q #[.str f t1, .str p t2] h' tk ⟨f, p, t1, t2, hfp, rfl⟩ ⟨_, (hs.2 _ (hlI _ e2)).trans (c _ e2), rfl, _, rfl⟩ ⟨⟨hI', (hs.2 _ hxI).trans b, fun p hp => (hs.2 _ (hlI _ hp)).trans (c p hp)⟩, hlI _ e2⟩ (fun y o hy e => (hs.2 y (by simpa using hy)).trans e)
 go := fun elts k pos i T s Q E ⟨⟨a, b, c⟩, hne⟩ hQ => wpAny_letOwnedTupleGo_listiter (l := x) (i := i + 1) ⟨_, a, rfl, rfl⟩ (hQ s.heap ⟨a, b, c⟩ fun _ _ _ e => e)
 apart := fun i T h hm => by simpa using hm.2
 done := fun s Q E ⟨a, b, c⟩ hQ => by
  obtain ⟨h, g, d, tk, os⟩ := s
  exact it_end hh a b rfl (by rw [hT.len]; exact Nat.le_refl _) fun h' k => hQ h' tk fun y o hy e => k y o (by simpa using hy) e
 self := fun i s Q E ⟨a, b, c⟩ hQ => wpAny_pyIter_listiter (l := x) (i := i) ⟨_, a, rfl, rfl⟩ hQ
end
section
variable {w : World} {A : Around} {E : Value → Shared → Prop} {x dx I : Addr} {vs : List Value} {n : Nat} {h : Heap} {g : Array GenState} {d : Drawn} {tk : Nat} {os : OsState}
theorem ze8 {ox : Obj} {name : PySem.Str} {f tf : Value} {Q : Option (Value × List Value) → Shared → Prop} (X : (KF w.params).In h) (hx : h.get? x = some ox) (e : findIn (KF w.params) ox.cls name = some (some f)) (ht : typeIn (KF w.params) f = some tf)
  (h3 : (tf == .type "function" || tf == .type "method_descriptor" || tf == .type "wrapper_descriptor") = true) (q : Q (some (f, [.ref x])) ⟨h, g, d, tk, os⟩) : wpAny (M w) A (bindSpecialIfBound? (.ref x) name) Q E ⟨h, g, d, tk, os⟩ := by
 unfold bindSpecialIfBound?
 refine wpAny_bind (zaa hx X e ?_)
 dsimp only
 refine wpAny_bind (wpAny_askSetting ?_)
 have b : wpAny (M w) A (do return some (← bindSpecial f (.ref x))) Q E ⟨h, g, d, tk, os⟩ := wpAny_bind (zaC X ht h3 (wpAny_pure q))
 split
 ·exact b
 ·exact wpAny_tryCatch (wpAny_bind (zaC X ht h3 (wpAny_pure q)))
theorem zfs {Q : Value → Shared → Prop} (X : (KF w.params).In h) (hx : h.get? x = some (accO dx vs n))
  (q : Q (.ref h.objs.size) ⟨h.push (itO x 0), g, d, tk, os⟩) : wpAny (M w) A (pyIter (.ref x)) Q E ⟨h, g, d, tk, os⟩ := by
 unfold pyIter
 refine wpAny_bind (zaa hx X (by ktn_no "k_ev") ?_)
 dsimp only
 refine wpAny_bind ?_
 unfold callSpecialIfBoundUnlessNone?
 refine wpAny_holding (wpAny_bind (ze8 X hx (by ktn_no "k_ev") (by ktn_no "k_ev") (by decide) ?_))
 dsimp only
 (ktn_no "iN"; exact (by decide))
 refine wpAny_bind (zhK X hx (wpAny_pure ?_))
 dsimp only
 have hI : (h.push (itO x 0)).get? h.objs.size = some (itO x 0) := Heap.get?_push_size _ rfl
 refine wpAny_bind (zaa hI (pushIn X) (by ktn_no "k_ev") ?_)
 exact wpAny_pure q
end
structure Gl (w : World) (h : Heap) : Prop where
 k : (KF w.params).In h
 g : ∃ mg, h.Ns mainGlobals mg
 b : ∃ mb, h.Ns builtinsNs mb ∧ ∀ x : PySem.Str, x ≠ "__name__" → mb x = bootBuiltins x
theorem WfB.gl {w : World} {B h : Heap} (W : WfB w B) (k : ∀ b o, B.get? b = some o → h.get? b = some o) : Gl w h :=
 ⟨W.k.keeps k, let ⟨mg, a⟩ := W.g; ⟨mg, a.keeps k⟩, let ⟨mb, a, r⟩ := W.b; ⟨mb, a.keeps k, r⟩⟩
theorem TabOk.part {h h' : Heap} (x : TabOk h) (k : ∀ b o, b < szTop → h.get? b = some o → h'.get? b = some o) : TabOk h' := by
 obtain ⟨⟨ps, a, b⟩, ⟨qs, c, d⟩⟩ := x
 have q : ∀ b, b < szTop → ∀ o, h.get? b = some o → h'.get? b = some o := fun b z o => k b o z
 have q1 := q C1 (by decide)
 have q2 := q T1 (by decide)
 have q3 := q C2 (by decide)
 have q4 := q T2 (by decide)
 exact ⟨⟨ps, a.at2 q1 q2, b.at2 q1 q2⟩, ⟨qs, c.at2 q3 q4, d.at2 q3 q4⟩⟩
structure Grow (h h' : Heap) : Prop where
 k : ∀ b o, ¬ Tab b → h.get? b = some o → h'.get? b = some o
 tg : ∀ t, Tab t → ∀ ps, h.get? t = some (tableObj ps) → ∃ more, h'.get? t = some (tableObj (ps ++ more))
 tb : TabOk h'
section
variable {M : Model} {A : Around} {E : Value → Shared → Prop} {h : Heap} {g : Array GenState} {d : Drawn} {tk : Nat} {os : OsState}
theorem zgy {env : Env} {c t : Addr} {pos : Pos} {qn : PySem.Str} {scope : Scope} {Q : Value → Shared → Prop} (hc : env.code = .ref c) (hct : (c = C1 ∧ t = T1) ∨ (c = C2 ∧ t = T2)) (T : TabOk h)
  (q : ∀ code h' tk', Grow h h' → Q code ⟨h', g, d, tk', os⟩) : wpAny M A (genexprCode env pos qn scope) Q E ⟨h, g, d, tk, os⟩ := by
 have refl : Grow h h := ⟨fun _ _ _ e => e, fun _ _ ps e => ⟨#[], by simpa using e⟩, T⟩
 have main : ∀ (c t : Addr) (ps : Array Value), h.IsCode c t ps → h.TableAt c t ps → env.code = .ref c → Tab t → (∀ h' ps', Heap.ExtBut t h h' → h'.IsCode c t ps' → h'.TableAt c t ps' → TabOk h') → wpAny M A (genexprCode env pos qn scope) Q E ⟨h, g, d, tk, os⟩ := by
  intro c t ps hi ht hc tt tbk
  cases hca : codeAmong pos ps.toList with
  | some c' => exact wpAny_genexprCode_hit hc hi hca (q _ _ _ refl)
  | none =>
   refine wpAny_genexprCodeX (s := ⟨h, g, d, tk, os⟩) hc hi ht hca fun c' h' tk' hx _ _ hi' _ ht' _ => q _ h' tk' ⟨fun b o nb e => hx b o (fun z => nb (z ▸ tt)) e, fun t' tt' ps' e => ?_, tbk h' _ hx hi' ht'⟩
   by_cases z : t' = t
   ·subst z
    have e1 := ht.2
    rw [e] at e1
    have e2 : ps' = ps := by
     have := Option.some.inj e1
     unfold tableObj at this
     injection this with _ _ z1 _
     injection z1
    subst e2
    exact ⟨_, ht'.2⟩
   ·exact ⟨#[], by simpa using hx t' _ z e⟩
 rcases hct with ⟨rfl, rfl⟩ | ⟨rfl, rfl⟩
 ·(refine x1_2 (T.a) ?_; intro ps a b)
  exact main _ _ ps a b hc (.inl rfl) fun h' ps' hx hi' ht' => ⟨⟨ps', hi', ht'⟩, let ⟨qs, p, q⟩ := T.b; ⟨qs, p.extBut hx (by decide) (by decide), q.extBut hx (by decide) (by decide)⟩⟩
 ·(refine x1_2 (T.b) ?_; intro ps a b)
  exact main _ _ ps a b hc (.inr rfl) fun h' ps' hx hi' ht' => ⟨let ⟨qs, p, q⟩ := T.a; ⟨qs, p.extBut hx (by decide) (by decide), q.extBut hx (by decide) (by decide)⟩, ⟨ps', hi', ht'⟩⟩
end
theorem passing_true' (n : Nat) : passing (fun _ => true) n 0 = List.range n := by
 unfold passing; rw [List.drop_zero]; exact List.filter_eq_self.mpr fun _ _ => rfl
theorem WalksS.weak {prog : Program} {w : World} {A : Around} {I : Addr} {fp wr : List Addr} {G : Array GenState → Array GenState → Prop} {n : Nat} {P P' : Nat → Value → Prop} {St : Nat → Shared → Prop}
  (W : WalksS prog w A I fp wr G n P St) (hP : ∀ i v, P i v → P' i v) : WalksS prog w A I fp wr G n P' St where
 sub := W.sub
 grefl := W.grefl
 gtrans := W.gtrans
 frame := W.frame
 item := fun i s Q E hi st hQ => W.item i s Q E hi st fun v s' hv => hQ v s' (hP i v hv)
 done := W.done
 self := W.self
section
variable {w : World} {B : Heap} {L : Addr} {m : PySem.Str → Option Value} {cl : List (PySem.Str × Addr)} {cm : PySem.Str → Option Value} {news : List (Addr × Obj)} {s₀ : Shared} {A : Around} {E : Value → Shared → Prop} {Q : Value → Shared → Prop}
 {h : Heap} {g : Array GenState} {d d₀ : Drawn} {tk tk₀ : Nat} {os : OsState} {x dx : Addr} {vs : List Value} {n : Nat} {its : List (PySem.Str × PySem.Str)} {l : List (Addr × Obj)}
theorem zgc {k : Nat} {env : Env} {elt iter : Expr} {xa xb : PySem.Str} {pa pb pt : Pos} {kt : Nat} {scope : Scope} {pos : Pos} {c t : Addr} (Fv : Nat → Value → Prop)
  (R : Room (k + 5) A) (F : Fm w B L cl s₀ m cm news ⟨h, g, d₀, tk₀, os⟩) (hT : Tups its vs l) (hm : (x, accO dx vs n) ∈ news) (hlm : ∀ p ∈ l, p ∈ news)
  (hc : env.code = .ref c) (hct : (c = C1 ∧ t = T1) ∨ (c = C2 ∧ t = T2)) (hgl : env.globals = mainGlobals)
  (hco : scope.isCoroutine = false) (hclos : closureFor scope env = pure []) (hcell : ∀ y ∈ scope.names, y.2 ≠ .cell) (h0 : scope.names.lookup (".0" : PySem.Str) = some NameKind.local)
  (hxa : scope.names.lookup xa = some .local) (hxb : scope.names.lookup xb = some .local) (hab : xa ≠ xb) (hkind : scope.kind = .function)
  (hi : ∀ Q : Value → Shared → Prop, Q (.ref x) ⟨h, g, d, tk, os⟩ → wpAny (M w) A (eval iter env) Q E ⟨h, g, d, tk, os⟩) (hs : ∀ x, genFold iter env x = pure x)
  (helt : ∀ (A' : Around) E' i f p t1 t2 (s₂ : Shared) m₂ C code, A'.handled = none → A'.depth ≤ A.depth + 1 → A'.units ≤ A.units + 8 → its[i]? = some (f, p) → Gl w s₂.heap → s₂.heap.Ns C m₂ → m₂ xa = some (.str f t1) → m₂ xb = some (.str p t2) →
   wpAny (M w) A' (eval elt (genEnv scope [] C code builtinsNs env)) (fun y s₃ => Fv i y ∧ Keeps s₂ s₃) E' s₂)
  (q : ∀ a fp wr G St s', WalksS pw w A.in4 a fp wr G its.length Fv St → St 0 s' → (∀ b ∈ fp, b < s'.heap.objs.size) → a ∈ fp → (∀ i s, St i s → s.TypeIs (.ref a) "generator") → (∀ s'', Moved wr G s' s'' → Fm w B L cl s₀ m cm news s'') → (∀ b ∈ wr, h.get? b = none) → (∀ b o, ¬ Tab b → h.get? b = some o → s'.heap.get? b = some o) → Q (.ref a) s') :
  wpAny (M w) A (eval (.GeneratorExp elt [⟨.Tuple [.Name xa pa, .Name xb pb] kt pt, iter, [], 0⟩] scope pos) env) Q E ⟨h, g, d, tk, os⟩ := by
 have X := F.K
 have hx : h.get? x = some (accO dx vs n) := (F.nw _ hm).1
 have hl : ∀ p ∈ l, h.get? p.1 = some p.2 := fun p hp => (F.nw _ (hlm p hp)).1
 have big : ∀ {b : Addr}, szTop ≤ b → ¬ Tab b := fun hb z => absurd (tab_lt z) (Nat.not_lt.mpr hb)
 have hsz : szTop ≤ h.objs.size := Nat.le_trans F.szL (Nat.le_of_lt F.ns.lt)
 refine wpAny_GeneratorExp_walksQTD R.handled hco hclos hcell h0 hxa hxb hab hkind R.lt (hi _ (zfs X hx ⟨(F.wf.nl.keeps F.keep).push _, ?_⟩)) hs
 have T₂ : TabOk (h.push (itO x 0)) := F.tb.keeps fun b o e => Heap.get?_push_of_some _ e
 refine zgy hc hct T₂ fun code h₃ tk₃ G₃ => ?_
 have hsz₃ : h.objs.size < h₃.objs.size := Heap.lt_size (G₃.k _ _ (fun z => absurd (tab_lt z) (Nat.not_lt.mpr (Nat.le_trans F.szL (Nat.le_of_lt F.ns.lt)))) (Heap.get?_push_size (o := itO x 0) _ rfl))
 have k₃ : ∀ b o, ¬ Tab b → h.get? b = some o → h₃.get? b = some o := fun b o nb e => G₃.k b o nb (Heap.get?_push_of_some _ e)
 have nB : ∀ b o, B.get? b = some o → ¬ Tab b := fun b o e z => by rcases z with rfl | rfl <;> first | (rw [F.wf.t1] at e; cases e) | (rw [F.wf.t2] at e; cases e)
 have kB : ∀ b o, B.get? b = some o → h₃.get? b = some o := fun b o e => k₃ b o (nB b o e) (F.keep b o e)
 (refine x3_7 (F.wf.bm) ?_; intro mg bm ob hg1 hg2 hg3 hg4 hg5 hg6 hg7)
 rw [hgl]
 refine wpAny_builtinsFor (hg1.keeps kB) hg2 hg3 (kB _ _ hg4) hg5 hg6 hg7 ?_
 have hI : h₃.get? h.objs.size = some (itO x 0) := G₃.k _ _ (big hsz) (Heap.get?_push_size _ rfl)
 have x₃ : h₃.get? x = some (accO dx vs n) := k₃ _ _ (big (F.nw _ hm).2.2.2) hx
 have l₃ : ∀ p ∈ l, h₃.get? p.1 = some p.2 := fun p hp => k₃ _ _ (big (F.nw _ (hlm p hp)).2.2.2) (hl p hp)
 have hxI : x ≠ h.objs.size := Nat.ne_of_lt (Heap.lt_size hx)
 have hlI : ∀ p ∈ l, p.1 ≠ h.objs.size := fun p hp => Nat.ne_of_lt (Heap.lt_size (hl p hp))
 refine ⟨h.objs.size, h.objs.size :: x :: l.map (·.1), [h.objs.size], its.length, aPt its, aSt x h.objs.size dx vs n l, _, fun _ => true, Fv, rfl, fun A' hA => zfD hT hxI hlI A' hA, fun i vals ⟨f, p, t1, t2, _, e⟩ => ⟨_, _, e⟩, ⟨hI, x₃, l₃⟩, fun b hb => ?_, F.wf.nl.keeps kB, fun hb => ?_, fun href hk => ⟨fun A' E' i va vb s₂ m₂ _ _ _ _ _ _ _ _ => ?_, fun A' E' i va vb s₂ m₂ hh hd hu hP _ hn ha hb hk2 => ?_⟩, fun a h₅ tk₅ gs hb ha hsz₅ hk5 W G => ?_⟩
 ·rcases List.mem_cons.mp hb with rfl | hb
  ·exact hsz₃
  ·rcases List.mem_cons.mp hb with rfl | hb
   ·exact Heap.lt_size x₃
   ·(refine x1_2 (List.mem_map.mp hb) ?_; intro p hp eqX2; subst eqX2)
    exact Heap.lt_size (l₃ p hp)
 ·have : cStatics < szTop := by decide
  have e : cStatics = h.objs.size := List.mem_singleton.mp hb
  exact absurd (Nat.lt_of_lt_of_le this hsz) (by rw [← e]; exact Nat.lt_irrefl _)
 ·exact wpAny_pure ⟨rfl, s₂.heap, s₂.toks, rfl, fun _ _ e => e⟩
 ·(refine x4_2 (hP) ?_; try clear hP; intro f p t1 t2 e1 e2)
  have e3 : va = .str f t1 ∧ vb = .str p t2 := by simpa using e2
  obtain ⟨rfl, rfl⟩ := e3
  refine helt A' E' i f p t1 t2 s₂ m₂ _ code hh hd hu e1 (F.wf.gl fun b o e => ?_) hn ha hb
  have e' := kB b o e
  refine hk2 b (List.mem_range.mpr (Heap.lt_size e')) (fun z => ?_) o (hk _ _ e')
  simp at z
  exact absurd (Heap.lt_size (F.keep _ _ e)) (by rw [z]; exact Nat.lt_irrefl _)
 ·simp only [passing_true', List.length_range] at W
  have W' := WalksS.weak (P' := Fv) W fun j y hy => by
   (refine x1_2 (hy) ?_; try clear hy; intro i e hF)
   obtain ⟨hlt, e⟩ := List.getElem?_eq_some_iff.mp e
   simp at e
   subst e; exact hF
  have kk : ∀ b o, ¬ Tab b → h.get? b = some o → h₅.get? b = some o := fun b o nb e => hk5 _ _ (k₃ b o nb e)
  have nw : ∀ b o, h₃.get? b = some o → b ≠ h.objs.size → b ∉ (h₃.objs.size :: [h.objs.size]) := fun b o e hne z => by
   rcases List.mem_cons.mp z with rfl | z
   ·exact absurd (Heap.lt_size e) (Nat.lt_irrefl _)
   ·simp at z; exact hne z
  refine q a _ _ _ _ ⟨h₅, g.push gs, d, tk₅, os⟩ W' G (fun b hb => ?_) (.head _) (fun i s hs => ?_) (fun s'' M => ?_) (fun b hb => ?_) kk
  ·show b < h₅.objs.size
   rw [hsz₅]
   rcases List.mem_cons.mp hb with rfl | hb
   ·exact Nat.lt_succ_self _
   ·rcases List.mem_cons.mp hb with rfl | hb
    ·exact Nat.lt_succ_of_lt ha
    ·exact Nat.lt_succ_of_lt (Nat.lt_trans (List.mem_range.mp hb) ha)
  ·obtain ⟨⟨o, nm, qn, e1, e2, _⟩, _⟩ := hs
   exact ⟨o, e1, e2⟩
  ·have km : ∀ b o, ¬ Tab b → h.get? b = some o → s''.heap.get? b = some o := fun b o nb e =>
    M.heap b o (nw b o (k₃ b o nb e) (Nat.ne_of_lt (Heap.lt_size e))) (kk b o nb e)
   have kt : ∀ b o, b < szTop → h₃.get? b = some o → s''.heap.get? b = some o := fun b o hb e =>
    M.heap b o (nw b o e (Nat.ne_of_lt (Nat.lt_of_lt_of_le hb hsz))) (hk5 _ _ e)
   refine F.moved (s := ⟨h, g, d₀, tk₀, os⟩) km (G₃.tb.part kt) ⟨M.os, fun k y e => ?_, fun hall => ?_, fun t tt ps e => ?_, trivial⟩
   ·have e5 : (g.push gs)[k]? = some y := by rw [Array.getElem?_push, if_neg]; exact e; exact fun z => by rw [z] at e; simp at e
    have hlt : k ≠ g.size := fun z => by
     have e : g[k]? = some y := e
     rw [z] at e; simp at e
    rcases M.gens with z | ⟨z, _⟩
    ·show s''.gens[k]? = some y
     rw [z]; exact e5
    ·show s''.gens[k]? = some y
     exact (z.2 k hlt).trans e5
   ·exact GenOnlyQ.bare M.gens (AllBare.push hall hb)
   ·obtain ⟨more, e'⟩ := G₃.tg t tt ps (Heap.get?_push_of_some _ e)
    exact ⟨more, kt _ _ (tab_lt tt) e'⟩
  ·rcases List.mem_cons.mp hb with rfl | hb
   ·cases z : h.get? h₃.objs.size with
    | none => rfl
    | some o => exact absurd (Nat.lt_trans (Heap.lt_size z) hsz₃) (Nat.lt_irrefl _)
   ·simp at hb; subst hb
    cases z : h.get? h.objs.size with
    | none => rfl
    | some o => exact absurd (Heap.lt_size z) (Nat.lt_irrefl _)
end
section
variable {prog : Program} {w : World} {A : Around} {E : Value → Shared → Prop} {s : Shared} {I : Addr} {fp wr : List Addr} {G : Array GenState → Array GenState → Prop} {n : Nat} {P : Nat → Value → Prop} {St : Nat → Shared → Prop} {Q : Value → Shared → Prop}
theorem WalksS.shift (W : WalksS prog w A I fp wr G n P St) : WalksS prog w A I fp wr G (n + 1) (fun i v => 1 ≤ i ∧ P (i - 1) v) (fun i s => 1 ≤ i ∧ St (i - 1) s) where
 sub := W.sub
 grefl := W.grefl
 gtrans := W.gtrans
 frame := fun i s h' tk ⟨a, b⟩ ht k => ⟨a, W.frame _ s h' tk b ht k⟩
 item := fun i s Q E hi ⟨a, b⟩ hQ => W.item (i - 1) s Q E (Nat.sub_lt_left_of_lt_add a (by rw [Nat.add_comm]; exact hi)) b fun v s' hv hs' hm => hQ v s' ⟨a, hv⟩ ⟨Nat.succ_le_succ (Nat.zero_le _), by rw [show i + 1 - 1 = i - 1 + 1 from (Nat.sub_add_cancel a).symm]; exact hs'⟩ hm
 done := fun s Q E ⟨a, b⟩ hQ => W.done s Q E (by simpa using b) hQ
 self := fun i s Q E ⟨a, b⟩ hQ => W.self _ s Q E b hQ
theorem zaP (val : Nat → Int) (c : Int) : ∀ k, preSum (fun i => if i = 0 then c else val (i - 1)) (k + 1) = c + preSum val k
 | 0 => by simp [preSum]
 | k + 1 => by
  have := zaP val c k
  rw [preSum, this, preSum]
  simp; exact Int.add_assoc _ _ _
theorem zgW {c : Int} {tc : Tok} (W : WalksS prog w A.in1 I fp wr G n P St) (hst : St 0 s) (hfp : ∀ b ∈ fp, b < s.heap.objs.size) (val : Nat → Int) (hval : ∀ i v, P i v → ∃ t, v = .int (val i) t)
  (hQ : ∀ s' t', Moved wr G s s' → Q (.int (c + preSum val n) t') s') : wpAny (model prog w) A (call (.builtin "sum") [.ref I, .int c tc]) Q E s := by
 refine call_function_tree PySem.F.kind_sum PySem.F.plain_sum PySem.F.entry_sum (by unfold argsOk; kernel_rfl) ?_
 have fin : ∀ (tk : Nat) (t1 : Tok) (st : Int), (st = 0 ∨ st = 2) → s.toks ≤ tk → wpAny (model prog w) A.in1 (do
   for (ty, what, hint) in [("str", "strings", "''"), ("bytes", "bytes", "b''"), ("bytearray", "bytearray", "b''")] do
    if ← isInstance (.int c t1) (.type ty) then
     rule "sum.start-refused"; raiseError "TypeError" s!"sum() can't sum {what} [use {hint}.join(seq) instead]"
   again (.builtin "sum.loop" ⟨[.ref I, ← newList [.int c t1], rawInt st, rawInt 0], []⟩))
   (fun fin s' => match fin with
    | .done f => (match (Except.ok f : Result) with | .ok (.ret v) => Q v s' | .ok _ => False | .error e => E e s')
    | .again c' => c'.quiet = true ∧ codeAny (model prog w) A c' (fun r s' => match r with | .ok (.ret v) => Q v s' | .ok _ => False | .error e => E e s') s') E { s with toks := tk } := by
  intro tk t1 st hst2 htk
  simp only [List.forIn_cons, List.forIn_nil]
  refine wpAny_bind (wpAny_bind (wpAny_bind (wpAny_isInstance (T := "int") (b := false) (typeIs_int _ _ _) _root_.PySem.sub_int_str ?_)))
  simp only [Bool.false_eq_true, if_false]
  refine wpAny_pure (wpAny_bind (wpAny_bind (wpAny_isInstance (T := "int") (b := false) (typeIs_int _ _ _) sub_int_bytes ?_)))
  simp only [Bool.false_eq_true, if_false]
  refine wpAny_pure (wpAny_bind (wpAny_bind (wpAny_isInstance (T := "int") (b := false) (typeIs_int _ _ _) sub_int_bytearray ?_)))
  simp only [Bool.false_eq_true, if_false]
  refine wpAny_pure (wpAny_pure ?_)
  refine wpAny_bind (wpAny_newObj_type ?_)
  have hSf : s.heap.objs.size ∉ fp := fun hm => Nat.lt_irrefl _ (hfp _ hm)
  have W' := WalksS.shift W
  refine wpAny_pure ⟨plainId_quiet PySem.F.plain_sum_loop _, codeAny_sum_loopAnyS W' (fun i => if i = 0 then c else val (i - 1)) (fun i v ⟨hi, hv⟩ => ?_) s.heap.objs.size hSf n 1 _ t1 0 st hst2 (by ktn_no "om") (by ktn_no "om")
   ⟨Nat.le_refl _, W.frame 0 s _ _ hst htk fun b _ o e => Heap.get?_push_of_some _ e⟩ ?_ fun s' t' hm => ?_⟩
  ·obtain ⟨t, e⟩ := hval _ _ hv
   exact ⟨t, by rw [if_neg (Nat.ne_of_gt hi)]; exact e⟩
  ·rw [Heap.get?_push_size _ rfl, show preSum (fun i => if i = 0 then c else val (i - 1)) 1 = c by rw [zaP]; simp [preSum]]
  ·show Q (.int (preSum _ (n + 1)) t') s'
   rw [zaP]
   exact hQ s' t' (hm.drop_new htk)
 unfold Builtin.«sum»
 simp only [List.length_cons, List.length_nil]
 (ktn_no "iN"; exact (by decide))
 refine wpAny_bind (wpAny_of_eq (show Builtin.Builtins.bindParams "sum" ["start"] 0 ⟨[.int c tc], []⟩ = pure [some (.int c tc)] from rfl) ?_)
 refine wpAny_bind (W.self 0 s _ _ hst ?_)
 dsimp only
 split
 ·refine wpAny_bind (wpAny_rule (wpAny_bind (wpAny_mkInt (wpAny_bind (wpAny_pure ?_)))))
  exact fin (s.toks + 1) s.toks 0 (.inl rfl) (Nat.le_succ _)
 ·refine wpAny_bind (wpAny_pure ?_)
  exact fin s.toks tc 2 (.inr rfl) (Nat.le_refl _)
end
section
variable {w : World} {A : Around} {E : Value → Shared → Prop} {s : Shared} {env : Env} {x : PySem.Str} {v : Value} {pos : Pos} {m : PySem.Str → Option Value} {Q : Value → Shared → Prop}
theorem gm_L (hn : s.heap.Ns env.locals m) (hk : env.scope.kind = .function) (hx : env.kindOf x = some .local) (hb : (x == ("__debug__" : PySem.Str)) = false) (hv : m x = some v) (q : Q v s) :
  wpAny (M w) A (eval (.Name x pos) env) Q E s := wpAny_Name (wpAny_loadName_local hk hx hn hv q) hb
theorem gm_G (G : Gl w s.heap) (hk : env.scope.kind = .function) (hx : env.kindOf x = some .globalImplicit) (hL : env.globals = mainGlobals) (hb : (x == ("__debug__" : PySem.Str)) = false) (e : nsIn (KF w.params) mainGlobals x = some (some v)) (q : Q v s) :
  wpAny (M w) A (eval (.Name x pos) env) Q E s := by
 obtain ⟨mg, hg⟩ := G.g
 exact Name_function_global hk hx (loadGlobal_global (by rw [hL]; exact hg) (mg_of G.k hg e) q) hb
theorem gm_B (G : Gl w s.heap) (hk : env.scope.kind = .function) (hx : env.kindOf x = some .globalImplicit) (hL : env.globals = mainGlobals) (hL2 : env.builtins = builtinsNs) (hb : (x == ("__debug__" : PySem.Str)) = false)
  (e : nsIn (KF w.params) mainGlobals x = some none) (hv : bootBuiltins x = some v) (hn : x ≠ "__name__") (q : Q v s) : wpAny (M w) A (eval (.Name x pos) env) Q E s := by
 obtain ⟨mg, hg⟩ := G.g
 (refine x1_2 (G.b) ?_; intro mb hmb hbb)
 exact Name_function_global hk hx (loadGlobal_builtin (by rw [hL]; exact hg) (mg_none_of G.k hg e) (by rw [hL2]; exact hmb) ((hbb x hn).trans hv) q) hb
end
local macro_rules | `(tactic| ktn_no "boot") => `(tactic| first | boot_by_name | boot_fast | kernel_rfl)
section
variable {w : World} {B : Heap} {L : Addr} {m : PySem.Str → Option Value} {cl : List (PySem.Str × Addr)} {cm : PySem.Str → Option Value} {own rest news : List (Addr × Obj)} {s₀ s : Shared} {A : Around} {E : Value → Shared → Prop} {Q : Value → Shared → Prop} {n : Nat} {x : Addr} {its : List (PySem.Str × PySem.Str)} {init : Int}
noncomputable def accLen (init : Int) (its : List (PySem.Str × PySem.Str)) : Int := init + (its.map fun y => ((y.1.length : Int) + (y.2.length : Int))).sum
theorem zbT (l : List Int) : ∀ k, k ≤ l.length → preSum (fun i => l.getD i 0) k = (l.take k).sum
 | 0, _ => by simp [preSum]
 | k + 1, h => by
  have := zbT l k (by ktn_no "om")
  rw [preSum, this, List.take_succ_eq_append_getElem (by ktn_no "om"), List.sum_append]
  simp [List.getD_eq_getElem?_getD, List.getElem?_eq_getElem (show k < l.length by ktn_no "o4")]
theorem zhd (R : Room (n + 12) A) (F : Fm w B L cl s₀ m cm (own ++ rest) s) (P : AccP x its init own) (hb : ∀ y ∈ its, y.1.length ≤ 1000000 ∧ y.2.length ≤ 1000000)
  (h : ∀ t s', Fm w B L cl s₀ m cm (own ++ rest) s' → Q (.int (accLen init its) t) s') :
  wpAny (M w) A (call (.ref a_Acc_dlen) [.ref x] []) Q E s := by
 refine zam (binds := [("self", .ref x)]) (fd := fd_Acc_dlen) (cmF := fun _ => none) R F (zep _) (zem _) rfl (BindsTo.of_eq rfl) (by decide) (by kernel_rfl) (fun _ _ e => (by cases e)) (fun _ _ _ e => (by cases e)) ?_ rfl rfl rfl
 obtain ⟨dx, nn, k, vs, l, es, t, rfl, hE, hT⟩ := P
 intro Qo hQo L' s₁ hL F₁ R₁
 obtain ⟨h₁, g₁, d₁, k₁, o₁⟩ := s₁
 ktn_no "ast"
 ktn_no "w"
 refine Call_ ?_ (by kernel_rfl)
 ktn_no "w"
 have hmem : ∀ p ∈ l, p ∈ ((x, accO dx vs nn) :: (dx, dictOf es k) :: l ++ rest) := fun p hp => by simp [hp]
 refine zgc (k := n) (c := C1) (t := T1) (its := its) (l := l) (dx := dx) (vs := vs) (n := nn) (fun i v => ∃ t, v = .int ((its.map fun y => ((y.1.length : Int) + (y.2.length : Int))).getD i 0) t) (R₁.less (by ktn_no "le")) F₁ hT (.head _) hmem (by kernel_rfl) (.inl ⟨rfl, rfl⟩) (by kernel_rfl) rfl (closureFor_none (by decide)) (by decide) (by kernel_rfl) (by kernel_rfl) (by kernel_rfl) (by decide) rfl (fun Q q => ?_) (fun x => rfl) (fun A' E' i f p t1 t2 s₂ m₂ C code hh hd hu e G hn ha hb' => ?_) fun a fp wr G' St s' W hst hfp hafp hty hmov hwr hk => ?_
 ·ktn_no "nm1"
  exact q
 ·have hl := hb _ (List.mem_of_getElem? e)
  refine wpAny_BinOp (Call_ (gm_B G (by kernel_rfl) (by kernel_rfl!) (by kernel_rfl) (by kernel_rfl) (by kernel_rfl) (by ktn_no "k_ev") (by ktn_no "boot") (by decide) ?_) (by kernel_rfl))
  refine cw_b (zaG (gm_L hn (by kernel_rfl) (by kernel_rfl!) (by kernel_rfl) ha (sp_nil ?_)) (by kernel_rfl)) (by kernel_rfl) (by kernel_rfl)
  refine SBL.len (by simp at hl; exact Int.lt_of_le_of_lt (Int.ofNat_le.mpr hl.1) (by decide)) ?_
  refine Call_ (gm_B G (by kernel_rfl) (by kernel_rfl!) (by kernel_rfl) (by kernel_rfl) (by kernel_rfl) (by ktn_no "k_ev") (by ktn_no "boot") (by decide) ?_) (by kernel_rfl)
  refine cw_b (zaG (gm_L hn (by kernel_rfl) (by kernel_rfl!) (by kernel_rfl) hb' (sp_nil ?_)) (by kernel_rfl)) (by kernel_rfl) (by kernel_rfl)
  refine SBL.len (by simp at hl; exact Int.lt_of_le_of_lt (Int.ofNat_le.mpr hl.2) (by decide)) ?_
  have ev : (its.map fun y => ((y.1.length : Int) + (y.2.length : Int))).getD i 0 = (f.length : Int) + (p.length : Int) := by
   simp only [List.getD_eq_getElem?_getD, List.getElem?_map, e]
   rfl
  refine add_int ⟨?_, s₂.heap, _, rfl, fun _ _ e => e⟩
  rw [ev]
  exact ⟨_, rfl⟩
 ·have F₃ := hmov s' (Moved.refl W.grefl)
  obtain ⟨h₃, g₃, d₃, k₃, o₃⟩ := s'
  ktn_no "w"
  have hx₃ := F₃.at 0 rfl
  have hd₃ := F₃.at 1 rfl
  refine zej F₃.K hx₃ hd₃ hE (by ktn_no "k_ev") rfl ?_
  ktn_no "w"
  refine zgW (St := St) W.in4_1 (W.frame 0 _ _ _ hst (Nat.le_succ _) fun _ _ _ e => e) hfp _ (fun i v hv => hv) fun s'' t' M => ?_
  refine hQo _ _ <| Back.of (hmov s'' ⟨M.heap, M.gens, M.drawn, M.os, Nat.le_trans (Nat.le_succ _) M.toks⟩) fun G => ?_
  have e := zbT (its.map fun y => ((y.1.length : Int) + (y.2.length : Int))) its.length (by simp)
  rw [List.take_of_length_le (by simp)] at e
  rw [e]
  exact h t' _ G
end
section
open Builtin Builtin.Str
section
variable {prog : Program} {w : World} {A : Around} {E : Value → Shared → Prop} {s : Shared} {Q : Value → Shared → Prop}
theorem zaZ {x : PySem.Str} {t : Tok} {a : Addr} {o : Obj} {n : Nat} {l : List (PySem.Str × Tok)} (ho : s.heap.get? a = some o) (hc : o.cls = .type "list" ∨ o.cls = .type "tuple") (hd : o.data = .seq (strValues l).toArray n) (hok : JoinOk x (l.map (·.1)) = true)
  (hq : ∀ t' k, Q (.str (Txt.join x (l.map (·.1))) t') { s with toks := k }) : wpAny (model prog w) A (call (.builtin "str.join") [.str x t, .ref a]) Q E s := by
 refine wpAny_call (codeAny_call_builtin PySem.F.slot_str_join.plain PySem.F.entry_str_join (PySem.F.slot_str_join.check _ _ _ _ _ _ _ _ (typeIs_str _ _ _) (PySem.F.args_str_join_2 _ _) ?_))
 rw [join_tree_other]
 refine wpAny_bind (Looks.here (M := model prog w) ((Looks.ld ho).andThen .now) ?_)
 (ktn_no "iP"; exact (by rcases hc with e | e <;> (rw [e]; decide)))
 refine wpAny_bind (wpAny_seqItems ho hd ?_)
 dsimp only
 unfold JoinOk at hok
 rw [Bool.not_eq_true'] at hok
 have g : Gives (joinTail x (strValues l)) (joinMade x l) := by
  have g0 := gives_joinTail x l hok
  cases l with
  | nil => exact g0
  | cons p r => cases r with
   | nil => exact g0
   | cons q r' => exact g0
 exact g prog w A (wants Q E) s (post_join l ⟨joinFit_length hok, hq⟩)
end
theorem join2 (f p : PySem.Str) : Txt.join (⟨#[]⟩ : PySem.Str) [f, p] = f ++ p := by
 have := fold_cat_join_nil [f, p]
 show PySem.Str.join (⟨#[]⟩ : PySem.Str) [f, p] = f ++ p
 rw [← this]
 simp only [List.foldl]
 have e : ∀ a : PySem.Str, (⟨#[]⟩ : PySem.Str) ++ a = a := fun a => by
  cases a; show (⟨#[] ++ _⟩ : PySem.Str) = _; simp
 rw [e]
noncomputable def accStr (its : List (PySem.Str × PySem.Str)) : PySem.Str := Txt.join (⟨#[]⟩ : PySem.Str) (its.map fun y => y.1 ++ y.2)
theorem zb5 {l : List PySem.Str} {N : Nat} (hl : l.length ≤ N) (hN : ∀ y ∈ l, y.length ≤ 10000) (h : N ≤ 900) : JoinOk (⟨#[]⟩ : PySem.Str) l = true := by
 unfold JoinOk
 have h3 : (⟨#[]⟩ : PySem.Str).length = 0 := rfl
 rw [StrLaws.joinFits hN (by rw [h3, Nat.mul_zero, Nat.add_zero]; exact Nat.le_trans (Nat.mul_le_mul_right 10000 (Nat.le_trans hl h)) (by decide))]
 rfl
theorem zaW : (Str.ofString "" : PySem.Str) = ⟨#[]⟩ := by decide
theorem zgC : ∀ {l : List (PySem.Str × Tok)} {ts : List PySem.Str}, l.length = ts.length → (∀ j v, (strValues l)[j]? = some v → ∃ t, v = Value.str (ts.getD j ⟨#[]⟩) t) → l.map (·.1) = ts := by
 intro l
 induction l with
 | nil =>
  intro ts hl h
  cases ts with
  | nil => rfl
  | cons z ts => cases hl
 | cons y0 l ih =>
  obtain ⟨y, u⟩ := y0
  intro ts hl h
  cases ts with
  | nil => cases hl
  | cons z ts =>
  have h1 := h 0 (.str y u) rfl
  obtain ⟨t, e⟩ := h1
  have e : y = z := by injection e
  subst e
  rw [List.map_cons, ih (ts := ts) (by simpa using hl) fun j v hv => by simpa using h (j + 1) v (by simpa [strValues] using hv)]
section
variable {w : World} {B : Heap} {L : Addr} {m : PySem.Str → Option Value} {cl : List (PySem.Str × Addr)} {cm : PySem.Str → Option Value} {own rest news : List (Addr × Obj)} {s₀ s : Shared} {A : Around} {E : Value → Shared → Prop} {Q : Value → Shared → Prop} {n : Nat} {x : Addr} {its : List (PySem.Str × PySem.Str)} {init : Int}
theorem zhm (R : Room (n + 12) A) (F : Fm w B L cl s₀ m cm (own ++ rest) s) (P : AccP x its init own) (hz : its.length ≤ 900) (hb : ∀ y ∈ its, y.1.length ≤ 5000 ∧ y.2.length ≤ 5000)
  (h : ∀ t s', Fm w B L cl s₀ m cm (own ++ rest) s' → Q (.str (accStr its) t) s') :
  wpAny (M w) A (call (.ref a_Acc_dstr) [.ref x] []) Q E s := by
 refine zam (binds := [("self", .ref x)]) (fd := fd_Acc_dstr) (cmF := fun _ => none) R F (zd7 _) (zeu _) rfl (BindsTo.of_eq rfl) (by decide) (by kernel_rfl) (fun _ _ e => (by cases e)) (fun _ _ _ e => (by cases e)) ?_ rfl rfl rfl
 obtain ⟨dx, nn, k, vs, l, es, t, rfl, hE, hT⟩ := P
 intro Qo hQo L' s₁ hL F₁ R₁
 obtain ⟨h₁, g₁, d₁, k₁, o₁⟩ := s₁
 ktn_no "ast"
 ktn_no "w"
 refine GM.join ?_
 ktn_no "w"
 have hmem : ∀ p ∈ l, p ∈ ((x, accO dx vs nn) :: (dx, dictOf es k) :: l ++ rest) := fun p hp => by simp [hp]
 refine zgc (k := n) (c := C2) (t := T2) (its := its) (l := l) (dx := dx) (vs := vs) (n := nn) (fun i v => ∃ t, v = .str ((its.map fun y => y.1 ++ y.2).getD i ⟨#[]⟩) t) (R₁.less (by ktn_no "le")) F₁ hT (.head _) hmem (by kernel_rfl) (.inr ⟨rfl, rfl⟩) (by kernel_rfl) rfl (closureFor_none (by decide)) (by decide) (by kernel_rfl) (by kernel_rfl) (by kernel_rfl) (by decide) rfl (fun Q q => ?_) (fun x => rfl) (fun A' E' i f p t1 t2 s₂ m₂ C code hh hd hu e G hn ha hb' => ?_) fun a fp wr G' St s' W hst hfp hafp hty hmov hwr hk => ?_
 ·ktn_no "nm1"
  exact q
 ·have hl := hb _ (List.mem_of_getElem? e)
  simp only at hl
  obtain ⟨h₂, g₂, d₂, k₂, o₂⟩ := s₂
  refine mc_ (gm_G G (by kernel_rfl) (by kernel_rfl!) (by kernel_rfl) (by kernel_rfl) (by ktn_no "k_ev") ?_) (by kernel_rfl!) (by kernel_rfl) (by kernel_rfl)
  refine GM.join ?_
  refine cw_b (zaG (Tuple_ (zaG (gm_L hn (by kernel_rfl) (by kernel_rfl!) (by kernel_rfl) ha (zaG (gm_L hn (by kernel_rfl) (by kernel_rfl!) (by kernel_rfl) hb' (sp_nil (zae (by simp) (sp_nil ?_)))) (by kernel_rfl))) (by kernel_rfl))) (by kernel_rfl)) (by kernel_rfl) (by kernel_rfl)
  refine zaZ (l := [(f, t1), (p, t2)]) (Heap.get?_push_size _ rfl) (.inr rfl) rfl ?_ fun t' k' => ⟨?_, ?_⟩
  ·rw [zaW]
   exact zb5 (N := 2) (by simp) (fun y hy => by simp at hy; rcases hy with rfl | rfl <;> first | exact Nat.le_trans hl.1 (by decide) | exact Nat.le_trans hl.2 (by decide)) (by ktn_no "om")
  ·refine ⟨t', ?_⟩
   rw [zaW, show ([(f, t1), (p, t2)].map (·.1)) = [f, p] from rfl, join2]
   simp only [List.getD_eq_getElem?_getD, List.getElem?_map, e]
   rfl
  ·exact ⟨_, _, rfl, fun b o eb => Heap.get?_push_of_some _ eb⟩
 ·refine sp_nil ?_
  refine SC.joinGen (St := St) W.in4_2 hty hst hfp hafp (fun i v ⟨t, e⟩ => ⟨_, t, e⟩) (fun s'' lv M hI => ?_) (Nat.le_trans hz (by decide))
  obtain ⟨hI1, hI2⟩ := hI
  have ev : lv.map (·.1) = its.map fun y => y.1 ++ y.2 := zgC (by simpa [strValues] using hI1) fun j v hv => hI2 j v (by simpa using hv)
  rw [ev]
  refine ⟨?_, fun t' k' => ?_⟩
  ·rw [zaW]
   refine zb5 (N := 900) (by simpa using hz) (fun y hy => ?_) (Nat.le_refl _)
   (refine x1_2 (List.mem_map.mp hy) ?_; intro z hz' eqX2; subst eqX2)
   have := hb z hz'
   show (z.1 ++ z.2).length ≤ 10000
   have e : (z.1 ++ z.2).length = z.1.length + z.2.length := by
    show (z.1.cps ++ z.2.cps).size = _
    simp [PySem.Str.length]
   rw [e]; exact Nat.le_trans (Nat.add_le_add this.1 this.2) (by decide)
  ·rw [zaW]
   refine hQo _ _ <| Back.of (Fm.toks (hmov s'' M) _) fun G => h t' _ G
end
end
section
variable {w : World} {B : Heap} {L : Addr} {m : PySem.Str → Option Value} {cl : List (PySem.Str × Addr)} {cm : PySem.Str → Option Value} {own rest news : List (Addr × Obj)} {s₀ s : Shared} {A : Around} {E : Value → Shared → Prop} {Q : Value → Shared → Prop} {n : Nat} {x : Addr} {its : List (PySem.Str × PySem.Str)} {init : Int}
theorem len_b {Q : Fin → Shared → Prop} (R : Room (n + 16) A) (F : Fm w B L cl s₀ m cm (own ++ rest) s) (P : AccP x its init own) (hb : ∀ y ∈ its, y.1.length ≤ 1000000 ∧ y.2.length ≤ 1000000) (h0 : 0 ≤ accLen init its) (h1 : accLen init its < 2 ^ 63)
  (h : ∀ t s', Fm w B L cl s₀ m cm (own ++ rest) s' → Q (.done (.ret (.int (accLen init its) t))) s') : wpAny (M w) A (Builtin.«len» ⟨[.ref x], []⟩) Q E s := by
 have X := F.K
 have P' := P
 obtain ⟨dx, nn, k, vs, l, es, t, rfl, hE, hT⟩ := P
 obtain ⟨hh, g, d, tk, os⟩ := s
 have hx : hh.get? x = some (accO dx vs nn) := F.at 0 rfl
 unfold Builtin.«len» callSpecial?
 refine wpAny_bind (wpAny_pure (wpAny_bind (wpAny_bind (zaa hx X (by ktn_no "k_ev") ?_))))
 dsimp only
 refine wpAny_holding (wpAny_bind (zaC X (by ktn_no "k_ev") (by decide +kernel) ?_))
 dsimp only
 refine wpAny_bind ?_
 refine zhd (n := n) (R.less (by ktn_no "le")) F P' hb fun t' s' F' => ?_
 obtain ⟨h₂, g₂, d₂, k₂, o₂⟩ := s'
 ktn_no "go"
 (ktn_no "iN"; exact (by ktn_no "om"))
 unfold retInt
 ktn_no "go"
 exact h _ _ (F'.toks _)
theorem zeI (R : Room (n + 17) A) (F : Fm w B L cl s₀ m cm (own ++ rest) s) (P : AccP x its init own) (hb : ∀ y ∈ its, y.1.length ≤ 1000000 ∧ y.2.length ≤ 1000000) (h0 : 0 ≤ accLen init its) (h1 : accLen init its < 2 ^ 63)
  (h : ∀ t s', Fm w B L cl s₀ m cm (own ++ rest) s' → Q (.int (accLen init its) t) s') : wpAny (M w) A (call (.builtin "len") [.ref x]) Q E s := by
 refine call_function_tree (by decide +kernel) (by decide +kernel) (entryFor_of_tree (by kernel_rfl) : entryFor table "len" = some Builtin.«len») (by unfold argsOk; kernel_rfl) ?_
 exact len_b (n := n) (R.in1.less (by ktn_no "om")) F P hb h0 h1 fun t s' F' => h t s' F'
theorem ze2 (R : Room (n + 17) A) (F : Fm w B L cl s₀ m cm (own ++ rest) s) (P : AccP x its init own) (hb : ∀ y ∈ its, y.1.length ≤ 1000000 ∧ y.2.length ≤ 1000000) (h0 : 0 ≤ accLen init its) (h1 : accLen init its < 2 ^ 63) {Q : Bool → Shared → Prop}
  (h : ∀ s', Fm w B L cl s₀ m cm (own ++ rest) s' → Q (accLen init its != 0) s') : wpAny (M w) A (truthy (.ref x)) Q E s := by
 have X := F.K
 have P' := P
 obtain ⟨dx, nn, k, vs, l, es, t, rfl, hE, hT⟩ := P
 obtain ⟨hh, g, d, tk, os⟩ := s
 have hx : hh.get? x = some (accO dx vs nn) := F.at 0 rfl
 unfold truthy
 refine wpAny_bind ?_
 unfold callSpecial?
 refine wpAny_bind (zaa hx X (by ktn_no "k_ev") (wpAny_pure ?_))
 dsimp only
 refine wpAny_bind (zaa hx X (by ktn_no "k_ev") ?_)
 (ktn_no "iN"; exact (by decide))
 refine wpAny_bind (wpAny_runValue (codeAny_builtin (entryFor_of_tree (by kernel_rfl) : entryFor table "len" = some Builtin.«len») ?_))
 rw [Around.under_plainId (by decide +kernel) _]
 refine len_b (n := n) (R.in1.less (by ktn_no "om")) F P' hb h0 h1 fun t s' F' => ?_
 exact wpAny_pure (h s' F')
end
section
variable {w : World} {B : Heap} {L : Addr} {m : PySem.Str → Option Value} {cl : List (PySem.Str × Addr)} {cm : PySem.Str → Option Value} {own rest news : List (Addr × Obj)} {s₀ s : Shared} {A : Around} {E : Value → Shared → Prop} {Q : Value → Shared → Prop} {n : Nat} {x : Addr} {its : List (PySem.Str × PySem.Str)} {init : Int}
theorem cw_t {pos : Pos} {env : Env} {e : Expr} {rest : List Expr} {T : String} {first : List Value} (h : wpAny (M w) A (spliced (backTo pos (starEach (e :: rest) env))) (fun vs s₁ => wpAny (M w) A (call (.type T) (first ++ vs)) Q E s₁) E s)
  (he : starEach (e :: rest) env = (false, eval e env) :: starEach rest env) (hp : (backTo pos (starEach rest env)).any (·.1) = false) :
  wpAny (M w) A (callWith pos (.type T) first (backTo pos (starEach (e :: rest) env)) []) Q E s := by
 rw [he] at h ⊢
 refine callWith_of (P := fun _ => True) ?_ (fun h _ => ⟨.machine, .inr (.inl rfl), Looks.now⟩) (evalArgs_plain (wpAny_mono h (fun vs s' hv => ⟨trivial, hv⟩) fun _ _ z => z))
 show ((false || (backTo pos (starEach rest env)).any (·.1)) || false) = false
 rw [hp]; rfl
theorem zcW (R : Room (n + 20) A) (F : Fm w B L cl s₀ m cm (own ++ rest) s) (P : AccP x its init own) (hz : its.length ≤ 900) (hb : ∀ y ∈ its, y.1.length ≤ 5000 ∧ y.2.length ≤ 5000)
  (h : ∀ t s', Fm w B L cl s₀ m cm (own ++ rest) s' → Q (.str (accStr its) t) s') : wpAny (M w) A (call (.type "str") [.ref x]) Q E s := by
 have X := F.K
 have P' := P
 obtain ⟨dx, nn, k, vs, l, es, t, rfl, hE, hT⟩ := P
 have hx : s.heap.get? x = some (accO dx vs nn) := F.at 0 rfl
 have hd : s.heap.get? dx = some (dictOf es k) := F.at 1 rfl
 refine kso_call (R.in1 (n := n + 19)).in1.cl X (zc7 hx hd) (by ktn_no "k_ev") (by kernel_rfl) ?_
 exact zhm (n := n) ((R.in1 (n := n + 19)).in1.less (k := n + 12) (by ktn_no "om")) F P' hz hb fun t s' F' => h t s' F'
theorem zeb (R : Room (n + 24) A) (F : Fm w B L cl s₀ m cm (own ++ rest) s) (P : AccP x its init own) (hz : its.length ≤ 900) (hb : ∀ y ∈ its, y.1.length ≤ 5000 ∧ y.2.length ≤ 5000) (h0 : 0 ≤ accLen init its) (h1 : accLen init its < 2 ^ 63)
  (h : ∀ s', Fm w B L cl s₀ m cm (own ++ rest) s' → Q (.bool (init == 0 && (accLen init its == 0 || Txt.isspace (accStr its)))) s') : wpAny (M w) A (call (.ref a_Acc_is_onlyws) [.ref x] []) Q E s := by
 refine zam (binds := [("self", .ref x)]) (fd := fd_Acc_is_onlyws) (cmF := fun _ => none) R F (zbJ _) (zbL _) rfl (BindsTo.of_eq rfl) (by decide) (by kernel_rfl) (fun _ _ e => (by cases e)) (fun _ _ _ e => (by cases e)) ?_ rfl rfl rfl
 have P' := P
 obtain ⟨dx, nn, k, vs, l, es, t, rfl, hE, hT⟩ := P
 intro Qo hQo L' s₁ hL F₁ R₁
 obtain ⟨h₁, g₁, d₁, k₁, o₁⟩ := s₁
 have hb' : ∀ y ∈ its, y.1.length ≤ 1000000 ∧ y.2.length ≤ 1000000 := fun y hy => ⟨Nat.le_trans (hb y hy).1 (by decide), Nat.le_trans (hb y hy).2 (by decide)⟩
 ktn_no "ast"
 ktn_no "w"
 have hx := F₁.at 0 rfl
 have hd := F₁.at 1 rfl
 refine zej F₁.K hx hd hE (by ktn_no "k_ev") rfl ?_
 ktn_no "w"
 cases hi : init == 0
 ·simp only [Bool.false_eq_true, if_false]
  refine hQo _ _ <| Back.of (F₁.toks _) fun G => ?_
  have := h _ G
  rw [hi] at this
  exact this
 ·simp only [if_true]
  ktn_no "w"
  refine ze2 (n := n + 6) (R₁.less (by ktn_no "le")) (F₁.toks _) P' hb' h0 h1 fun s' F₂ => ?_
  obtain ⟨h₂, g₂, d₂, k₂, o₂⟩ := s'
  ktn_no "w"
  by_cases ha : accLen init its = 0
  ·(ktn_no "iP"; exact (by rw [ha]; rfl))
   refine hQo _ _ <| Back.of F₂ fun G => ?_
   have := h _ G
   rw [hi, ha] at this
   rw [ha]
   exact this
  ·(ktn_no "iN"; exact (by simpa using ha))
   ktn_no "w"
   refine Call_ ?_ (by kernel_rfl)
   ktn_no "w"
   refine cw_t ?_ (by kernel_rfl) (by kernel_rfl)
   ktn_no "w"
   refine zcW (n := n + 3) (R₁.less (by ktn_no "le")) F₂ P' hz hb fun t' s' F₃ => ?_
   obtain ⟨h₃, g₃, d₃, k₃, o₃⟩ := s'
   ktn_no "w"
   refine GM.isspace ?_
   ktn_no "w"
   refine SC.isspace ?_
   refine hQo _ _ <| Back.of F₃ fun G => ?_
   have := h _ G
   rw [hi, show (accLen init its == 0) = false by simpa using ha] at this
   exact this
end
section
variable {w : World} {A : Around} {E : Value → Shared → Prop} {x dx y : Addr} {vs : List Value} {n : Nat} {h : Heap} {g : Array GenState} {d : Drawn} {tk : Nat} {os : OsState}
noncomputable abbrev slO (a b c : Value) : Obj := ⟨.type "slice", none, .fields #[a, b, c], #[]⟩
theorem zgZ (vs : List Value) (i : Nat) (hi : i ≤ vs.length) : (sliceRange (max 0 (min (if (i : Int) < 0 then (i : Int) + (vs.toArray.size : Int) else (i : Int)) (vs.toArray.size : Int))) (if (1 : Int) > 0 then (vs.toArray.size : Int) else -1) 1).filterMap (fun x => vs.toArray[x]?) = vs.drop i := by
 have e : max 0 (min (if (i : Int) < 0 then (i : Int) + (vs.toArray.size : Int) else (i : Int)) (vs.toArray.size : Int)) = (i : Int) := by
  rw [if_neg (Int.not_lt.mpr (Int.natCast_nonneg i)), List.size_toArray, Int.min_eq_left (Int.ofNat_le.mpr hi), Int.max_eq_right (Int.natCast_nonneg i)]
 rw [e, if_pos (by decide), sliceRange_one]
 rw [pick_run]
 show (vs.drop i).take _ = _
 exact List.take_of_length_le (by simp)
theorem zgU {i : Nat} {ti : Tok} {Q : Value → Shared → Prop} (X : (KF w.params).In h) (hx : h.get? x = some (accO dx vs n)) (hy : h.get? y = some (slO (.int i ti) .none .none)) (hi : i ≤ vs.length) (hz : vs.length ≤ 900)
  (q : Q (.ref h.objs.size) ⟨h.push ⟨.type "list", none, .seq (vs.drop i).toArray 0, #[]⟩, g, d, tk, os⟩) :
  wpAny (M w) A (call (.builtin "list.__getitem__") [.ref x, .ref y]) Q E ⟨h, g, d, tk, os⟩ := by
 refine zav (i := "list.__getitem__") (owner := "list") (n := "__getitem__") (b := Builtin.«list.__getitem__») (by first | exact .inr (by decide +kernel) | exact .inl (by decide +kernel)) (by decide +kernel) (by decide +kernel) (entryFor_of_tree (by kernel_rfl)) (by unfold argsOk; kernel_rfl) (zah hx X (by ktn_no "k_ev")) ?_
 unfold Builtin.«list.__getitem__»
 ktn_no "go"
 dsimp only
 rw [zgZ vs i hi]
 rw [if_neg (by have : (900 : Nat) ≤ sizeLine := by decide
                simp; ktn_no "o4")]
 unfold newObjAsIs
 ktn_no "go"
 exact ⟨_, rfl, q⟩
end
section
variable {w : World} {A : Around} {E : Value → Shared → Prop} {x dx y z : Addr} {vs us : List Value} {n n2 : Nat} {h : Heap} {g : Array GenState} {d : Drawn} {tk : Nat} {os : OsState}
theorem zdg {i : Nat} {ti : Tok} {Q : Value → Shared → Prop} (X : (KF w.params).In h) (hx : h.get? x = some (accO dx vs n)) (hy : h.get? y = some (slO (.int i ti) .none .none)) (hzo : h.get? z = some ⟨.type "list", none, .seq us.toArray n2, #[]⟩) (hi : i ≤ vs.length) (hz : vs.length ≤ 900) (hu : us.length ≤ 900) (hne : x ≠ z)
  (q : ∀ h' n', Heap.SameBut x h h' → h'.get? x = some (accO dx (vs.take i ++ us) n') → Q .none ⟨h', g, d, tk, os⟩) :
  wpAny (M w) A (call (.builtin "list.__setitem__") [.ref x, .ref y, .ref z]) Q E ⟨h, g, d, tk, os⟩ := by
 refine zav (i := "list.__setitem__") (owner := "list") (n := "__setitem__") (b := Builtin.«list.__setitem__») (by first | exact .inr (by decide +kernel) | exact .inl (by decide +kernel)) (by decide +kernel) (by decide +kernel) (entryFor_of_tree (by kernel_rfl)) (by unfold argsOk; kernel_rfl) (zah hx X (by ktn_no "k_ev")) ?_
 have hs : Builtin.List.listSameRef (.ref x) (.ref z) = false := by simp [Builtin.List.listSameRef, hne]
 unfold Builtin.«list.__setitem__»
 repeat (first | (with_reducible refine zal (by heap_get; done) ?hz1 ?hz2 ?_) | (rw [hs, if_neg Bool.false_ne_true]) | (ktn_no "no_call"; ktn_no "st_one"))
 have e : max 0 (min (if (i : Int) < 0 then (i : Int) + (vs.toArray.size : Int) else (i : Int)) (vs.toArray.size : Int)) = (i : Int) := by
  rw [if_neg (Int.not_lt.mpr (Int.natCast_nonneg i)), List.size_toArray, Int.min_eq_left (Int.ofNat_le.mpr hi), Int.max_eq_right (Int.natCast_nonneg i)]
 have e2 : max (i : Int) (vs.toArray.size : Int) = (vs.toArray.size : Int) := Int.max_eq_right (Int.ofNat_le.mpr hi)
 rw [if_neg (by unfold Builtin.List.listTooLong; have : (1800 : Nat) ≤ sizeLine := by decide
                simp; exact Nat.le_trans (Nat.add_le_add hz hu) this)]
 dsimp only
 simp only [e, show (1 : Int) > 0 by decide, if_true, e2, Int.toNat_natCast]
 unfold Builtin.List.listUpdate
 dsimp only
 refine wpAny_bind (zal hx ?_ ?_ ?_)
 ·simp; ktn_no "o4"
 ·simp; exact Nat.le_trans (Nat.add_le_add (Nat.le_trans (Nat.min_le_right _ _) hz) hu) (by decide)
 intro h1 n1 hs1 hx1
 ktn_no "go"
 refine ⟨_, rfl, q _ n1 hs1 ?_⟩
 rw [hx1]
 simp
end
section
variable {w : World} {A : Around} {E : Value → Shared → Prop} {x dx y : Addr} {vs : List Value} {n : Nat} {h : Heap} {g : Array GenState} {d : Drawn} {tk : Nat} {os : OsState}
theorem zgV {name : PySem.Str} {k : Value} {Q : Value → Shared → Prop} (X : (KF w.params).In h) (hx : h.get? x = some (accO dx vs n)) (q : Q k ⟨h, g, d, tk, os⟩) : wpAny (M w) A (sequenceKey (.ref x) k name) Q E ⟨h, g, d, tk, os⟩ := by
 unfold sequenceKey
 refine wpAny_bind (zbh hx ?_)
 dsimp only
 ktn_no "go"
 exact q
theorem zce {k : Value} {Q : Value → Shared → Prop} (X : (KF w.params).In h) (hx : h.get? x = some (accO dx vs n)) (q : wpAny (M w) A (call (.builtin "list.__getitem__") [.ref x, k]) Q E ⟨h, g, d, tk, os⟩) : wpAny (M w) A (getItem (.ref x) k) Q E ⟨h, g, d, tk, os⟩ := by
 unfold getItem
 refine wpAny_holding (wpAny_bind (zgV X hx ?_))
 unfold callSpecial?
 refine wpAny_bind (wpAny_bind (zaa hx X (by ktn_no "k_ev") ?_))
 dsimp only
 refine wpAny_holding (wpAny_bind (zaC X (by ktn_no "k_ev") (by decide +kernel) ?_))
 refine wpAny_bind (wpAny_mono q (fun v s' hv => wpAny_pure (wpAny_pure hv)) fun _ _ z => z)
theorem zbk {k v : Value} {Q : Unit → Shared → Prop} (X : (KF w.params).In h) (hx : h.get? x = some (accO dx vs n)) (q : wpAny (M w) A (call (.builtin "list.__setitem__") [.ref x, k, v]) (fun _ => Q ()) E ⟨h, g, d, tk, os⟩) : wpAny (M w) A (setItem (.ref x) k v) Q E ⟨h, g, d, tk, os⟩ := by
 unfold setItem
 refine wpAny_holding (wpAny_bind (zgV X hx ?_))
 unfold callSpecial?
 refine wpAny_bind (wpAny_bind (zaa hx X (by ktn_no "k_ev") ?_))
 dsimp only
 refine wpAny_holding (wpAny_bind (zaC X (by ktn_no "k_ev") (by decide +kernel) ?_))
 refine wpAny_bind (wpAny_mono q (fun v s' hv => wpAny_pure (wpAny_pure hv)) fun _ _ z => z)
end
section
variable {w : World} {A : Around} {E : Value → Shared → Prop} {s : Shared} {env : Env}
theorem zf5 {value e : Expr} {p pos : Pos} {Q : Value → Shared → Prop}
  (h : wpAny (M w) A (eval value env) (fun o s₁ => wpAny (M w) A (eval e env) (fun l s₂ => wpAny (M w) A (newFields "slice" [l, .none, .none]) (fun i s₃ => wpAny (M w) A (getitemInPython o) (fun _ s₄ => wpAny (M w) A (operate [i, o] (getItem o i)) Q E s₄) E s₃) E s₂) E s₁) E s)
  (ht : ∀ o r, letTemporaryGo value o r = pure ()) : wpAny (M w) A (eval (.Subscript value (.Slice (some e) none none p) pos) env) Q E s := by
 rw [arm_eval_Subscript]
 refine wpAny_bind (wpAny_mono h (fun o s₁ h₁ => ?_) fun _ _ z => z)
 refine wpAny_bind (wpAny_holding ?_)
 rw [arm_eval_Slice]
 have e1 : (valueOrNone (evalOpt (some e) env) : Sem Value) = eval e env := by kernel_rfl
 have e2 : (valueOrNone (evalOpt none env) : Sem Value) = pure .none := by kernel_rfl
 rw [e1, e2]
 refine wpAny_bind (wpAny_mono h₁ (fun l s₂ h₂ => ?_) fun _ _ z => z)
 refine wpAny_bind (wpAny_holding (wpAny_pure (wpAny_bind (wpAny_holding (wpAny_pure ?_)))))
 refine wpAny_mono h₂ (fun i s₃ h₃ => ?_) fun _ _ z => z
 refine wpAny_bind (wpAny_standAt (wpAny_bind (wpAny_mono h₃ (fun b s₄ h₄ => ?_) fun _ _ z => z)))
 refine wpAny_bind (wpAny_mono h₄ (fun r s₅ h₅ => ?_) fun _ _ z => z)
 rw [ht]
 exact wpAny_bind (wpAny_pure (wpAny_pure h₅))
end
noncomputable abbrev a_popdef : Addr := match fd_Acc_pop_from.defaults with | .ref a => a | _ => 0
theorem pd_K (P : Params) : (KF P).lookup a_popdef = some ((KF P).lookup a_popdef).get! := by kernel_rfl
inductive LstP (y : Addr) (its : List (PySem.Str × PySem.Str)) (own : List (Addr × Obj)) : Prop
 | mk (n : Nat) (vs : List Value) (l : List (Addr × Obj)) (e : own = (y, ⟨.type "list", none, .seq vs.toArray n, #[]⟩) :: l) (hT : Tups its vs l) : LstP y its own
section
variable {w : World} {B : Heap} {L : Addr} {m : PySem.Str → Option Value} {cl : List (PySem.Str × Addr)} {cm : PySem.Str → Option Value} {own rest news : List (Addr × Obj)} {s₀ s : Shared} {A : Around} {E : Value → Shared → Prop} {Q : Value → Shared → Prop} {n : Nat} {x : Addr} {its : List (PySem.Str × PySem.Str)} {init : Int}
theorem zaB {h : Heap} {g : Array GenState} {d : Drawn} {tk : Nat} {os : OsState} {a b c : Value} (q : Q (.ref h.objs.size) ⟨h.push (slO a b c), g, d, tk, os⟩) : wpAny (M w) A (newFields "slice" [a, b, c]) Q E ⟨h, g, d, tk, os⟩ :=
 wpAny_newObj_type q (by show (3 : Nat) ≤ _; decide)
theorem zcq {M : Model} {vs : List Value} {t : Sem Value} {Q : Value → Shared → Prop} (q : wpAny M A t Q E s) : wpAny M A (operate vs t) Q E s := fun Γ p hΓ => by
 rw [Sem.wp_operate]; exact q Γ p hΓ
theorem zg2 {env : Env} {e : Expr} {p : Pos} (h : wpAny (M w) A (eval e env) (fun l s₂ => wpAny (M w) A (newFields "slice" [l, .none, .none]) Q E s₂) E s) : wpAny (M w) A (eval (.Slice (some e) none none p) env) Q E s := by
 rw [arm_eval_Slice]
 have e1 : (valueOrNone (evalOpt (some e) env) : Sem Value) = eval e env := by kernel_rfl
 have e2 : (valueOrNone (evalOpt none env) : Sem Value) = pure .none := by kernel_rfl
 rw [e1, e2]
 refine wpAny_bind (wpAny_mono h (fun l s₂ h₂ => ?_) fun _ _ z => z)
 exact wpAny_bind (wpAny_holding (wpAny_pure (wpAny_bind (wpAny_holding (wpAny_pure h₂)))))
theorem zcI {i : Nat} {ti : Tok} (R : Room (n + 12) A) (F : Fm w B L cl s₀ m cm (own ++ rest) s) (P : AccP x its init own) (hz : its.length ≤ 900) (hi : i ≤ its.length)
  (h : ∀ own1 own2 y s', AccP x (its.take i) init own1 → LstP y (its.drop i) own2 → Fm w B L cl s₀ m cm (own2 ++ (own1 ++ rest)) s' → Q (.ref y) s') :
  wpAny (M w) A (call (.ref a_Acc_pop_from) [.ref x, .int i ti] []) Q E s := by
 refine zam (binds := [("self", .ref x), ("i", .int i ti)]) (fd := fd_Acc_pop_from) (cmF := fun _ => none) R F (zch _) (zbZ _) rfl (BindsTo.of_defaults (T := a_popdef) rfl (F.K _ _ (pd_K _)) rfl (by with_unfolding_all rfl) (by kernel_rfl)) (by decide) (by kernel_rfl) (fun _ _ e => (by cases e)) (fun _ _ _ e => (by cases e)) ?_ rfl rfl rfl
 obtain ⟨dx, nn, k, vs, l, es, t, rfl, hE, hT⟩ := P
 intro Qo hQo L' s₁ hL F₁ R₁
 obtain ⟨h₁, g₁, d₁, k₁, o₁⟩ := s₁
 ktn_no "ast"
 ktn_no "w"
 refine zf5 ?_ (fun o r => rfl)
 ktn_no "w"
 refine zaB ?_
 have F₂ := Fm.push F₁ (slO (.int i ti) .none .none) (tk := k₁)
 have hx₂ := F₂.at 1 rfl
 have hy₂ := F₂.at 0 rfl
 unfold getitemInPython
 refine wpAny_bind (zaa hx₂ F₂.K (by ktn_no "k_ev") ?_)
 dsimp only
 refine wpAny_pure (zcq ?_)
 refine zce F₂.K hx₂ (zgU F₂.K hx₂ hy₂ (by rw [hT.len]; exact hi) (by rw [hT.len]; exact hz) ?_)
 have F₃ := Fm.push F₂ ⟨.type "list", none, .seq (vs.drop i).toArray 0, #[]⟩ (tk := k₁)
 refine st_L F₃ (by kernel_rfl) (by kernel_rfl!) (by kernel_rfl) fun h₄ F₄ => ?_
 ktn_no "w"
 refine wpAny_Assign_Subscript ?_ (by kernel_rfl)
 ktn_no "w"
 refine zap (by simp) ?_
 have F₅ := Fm.push F₄ ⟨.type "list", none, .seq ([] : List Value).toArray 0, #[]⟩ (tk := k₁ + 1)
 ktn_no "w"
 refine zg2 ?_
 ktn_no "w"
 refine zaB ?_
 have F₆ := Fm.push F₅ (slO (.int i ti) .none .none) (tk := k₁ + 1)
 have hy₆ := F₆.at 0 rfl
 have hz₆ := F₆.at 1 rfl
 have hx₆ := F₆.at 4 rfl
 refine zbk F₆.K hx₆ (zdg F₆.K hx₆ hy₆ hz₆ (by rw [hT.len]; exact hi) (by rw [hT.len]; exact hz) (by simp) ?_ fun h' n' hs hx' => ?_)
 ·exact Nat.ne_of_lt (Heap.lt_size (F₄.at 2 rfl))
 have F₇ := F₆.set (i := 4) rfl hs hx' (tk := k₁ + 1)
 rw [← List.take_append_drop i its] at hT
 clear hs hx' hx₂ hy₂ hy₆ hz₆ hx₆ F₁ F₂ F₃ F₄ F₅ F₆
 ktn_no "w"
 (refine x4_4 (hT.split) ?_; intro va vb la lb eqX4 eqX5 h1 h2; subst eqX4; subst eqX5)
 have hl1 := h1.len
 have hl2 := h2.len
 have hva : va.length = i := by rw [hl1, List.length_take]; ktn_no "o4"
 refine hQo _ _ <| Back.of (Fm.toks (Fm.perm (F₇.sub (news' := ((h₁.push (slO (.int i ti) .none .none)).objs.size, ⟨.type "list", none, .seq vb.toArray 0, #[]⟩) :: (x, accO dx va n') :: (dx, dictOf es k) :: (la ++ lb) ++ rest) ?_) (news' := (((h₁.push (slO (.int i ti) .none .none)).objs.size, ⟨.type "list", none, .seq vb.toArray 0, #[]⟩) :: lb) ++ (((x, accO dx va n') :: (dx, dictOf es k) :: la) ++ rest)) ?_) _) fun G => ?_
 ·have e1 : List.take i (va ++ vb) ++ [] = va := by rw [List.append_nil, ← hva]; simp
  have e2 : List.drop i (va ++ vb) = vb := by rw [← hva]; simp
  simp only [e1, e2, List.set, List.cons_append]
  exact .cons _ (.cons _ (.cons_cons _ (.cons _ (List.Sublist.refl _))))
 ·ktn_no "perm_tac"
 ·exact h _ _ _ _ ⟨_, _, _, _, _, _, _, rfl, hE, h1⟩ ⟨_, _, _, rfl, h2⟩ G
end
section
variable {w : World} {A : Around} {E : Value → Shared → Prop} {x dx y z : Addr} {vs us : List Value} {n n2 : Nat} {h : Heap} {g : Array GenState} {d : Drawn} {tk : Nat} {os : OsState}
theorem zcx {Q : Value → Shared → Prop} (X : (KF w.params).In h) (hx : h.get? x = some (accO dx vs n)) (hy : h.get? y = some (slO .none .none .none)) (hzo : h.get? z = some ⟨.type "list", none, .seq us.toArray n2, #[]⟩) (hz : vs.length ≤ 900) (hu : us.length ≤ 900) (hne : x ≠ z)
  (q : ∀ h' n', Heap.SameBut x h h' → h'.get? x = some (accO dx us n') → Q .none ⟨h', g, d, tk, os⟩) :
  wpAny (M w) A (call (.builtin "list.__setitem__") [.ref x, .ref y, .ref z]) Q E ⟨h, g, d, tk, os⟩ := by
 refine zav (i := "list.__setitem__") (owner := "list") (n := "__setitem__") (b := Builtin.«list.__setitem__») (by first | exact .inr (by decide +kernel) | exact .inl (by decide +kernel)) (by decide +kernel) (by decide +kernel) (entryFor_of_tree (by kernel_rfl)) (by unfold argsOk; kernel_rfl) (zah hx X (by ktn_no "k_ev")) ?_
 have hs : Builtin.List.listSameRef (.ref x) (.ref z) = false := by simp [Builtin.List.listSameRef, hne]
 unfold Builtin.«list.__setitem__»
 repeat (first | (with_reducible refine zal (by heap_get; done) ?hz1 ?hz2 ?_) | (rw [hs, if_neg Bool.false_ne_true]) | (ktn_no "no_call"; ktn_no "st_one"))
 rw [if_neg (by unfold Builtin.List.listTooLong; have : (1800 : Nat) ≤ sizeLine := by decide
                simp; exact Nat.le_trans (Nat.add_le_add hz hu) this)]
 dsimp only
 unfold Builtin.List.listUpdate
 dsimp only
 refine wpAny_bind (zal hx ?_ ?_ ?_)
 ·simp; ktn_no "o4"
 ·simp; ktn_no "o4"
 intro h1 n1 hs1 hx1
 ktn_no "go"
 refine ⟨_, rfl, q _ n1 hs1 ?_⟩
 rw [hx1]
 simp
end
section
variable {w : World} {B : Heap} {L : Addr} {m : PySem.Str → Option Value} {cl : List (PySem.Str × Addr)} {cm : PySem.Str → Option Value} {own own2 rest news : List (Addr × Obj)} {s₀ s : Shared} {A : Around} {E : Value → Shared → Prop} {Q : Value → Shared → Prop} {n : Nat} {x y : Addr} {its its2 : List (PySem.Str × PySem.Str)} {init : Int}
theorem zdm {env : Env} {p : Pos} (h : wpAny (M w) A (newFields "slice" [.none, .none, .none]) Q E s) : wpAny (M w) A (eval (.Slice none none none p) env) Q E s := by
 rw [arm_eval_Slice]
 have e2 : (valueOrNone (evalOpt none env) : Sem Value) = pure .none := by kernel_rfl
 rw [e2]
 exact wpAny_bind (wpAny_pure (wpAny_bind (wpAny_holding (wpAny_pure (wpAny_bind (wpAny_holding (wpAny_pure h)))))))
noncomputable abbrev a_rsdef : Addr := match fd_Acc_reset.defaults with | .ref a => a | _ => 0
theorem rd_K (P : Params) : (KF P).lookup a_rsdef = some ((KF P).lookup a_rsdef).get! := by kernel_rfl
theorem zfr (R : Room (n + 12) A) (F : Fm w B L cl s₀ m cm (own ++ rest) s) (P : AccP x its init own) (hz : its.length ≤ 900)
  (h : ∀ own1 s', AccP x [] 0 own1 → Fm w B L cl s₀ m cm (own1 ++ rest) s' → Q .none s') :
  wpAny (M w) A (call (.ref a_Acc_reset) [.ref x] []) Q E s := by
 refine zam (binds := [("self", .ref x), ("startval", .none)]) (fd := fd_Acc_reset) (cmF := fun _ => none) R F (zbH _) (zbI _) rfl (BindsTo.of_defaults (T := a_rsdef) rfl (F.K _ _ (rd_K _)) rfl (by with_unfolding_all rfl) (by kernel_rfl)) (by decide) (by kernel_rfl) (fun _ _ e => (by cases e)) (fun _ _ _ e => (by cases e)) ?_ rfl rfl rfl
 obtain ⟨dx, nn, k, vs, l, es, t, rfl, hE, hT⟩ := P
 intro Qo hQo L' s₁ hL F₁ R₁
 obtain ⟨h₁, g₁, d₁, k₁, o₁⟩ := s₁
 ktn_no "ast"
 ktn_no "w"
 (ktn_no "iP"; exact (by decide))
 ktn_no "w"
 refine zap (by simp) ?_
 have F₂ := Fm.push F₁ ⟨.type "list", none, .seq ([] : List Value).toArray 0, #[]⟩ (tk := k₁)
 refine st_L F₂ (by kernel_rfl) (by kernel_rfl!) (by kernel_rfl) fun h₃ F₃ => ?_
 ktn_no "w"
 refine wpAny_Assign_Subscript ?_ (by kernel_rfl)
 ktn_no "w"
 refine zdm ?_
 refine zaB ?_
 have F₄ := Fm.push F₃ (slO .none .none .none) (tk := k₁ + 1)
 have hy₄ := F₄.at 0 rfl
 have hz₄ := F₄.at 1 rfl
 have hx₄ := F₄.at 2 rfl
 refine zbk F₄.K hx₄ (zcx F₄.K hx₄ hy₄ hz₄ (by rw [hT.len]; exact hz) (by simp) ?_ fun h' n' hs hx' => ?_)
 ·exact Nat.ne_of_lt (Heap.lt_size (F₁.at 0 rfl))
 have F₅ := F₄.set (i := 2) rfl hs hx' (tk := k₁ + 1)
 ktn_no "w"
 have hne : x ≠ dx := F₁.ne (i := 0) (j := 1) rfl rfl (by decide)
 refine zec F₅.K (F₅.at 2 rfl) hne (F₅.at 3 rfl) hE (by ktn_no "om") fun h₆ k₆ kk₆ es₆ hs₆ hd₆ hE₆ => ?_
 have F₆ := F₅.set (i := 3) rfl hs₆ hd₆ (tk := k₆)
 ktn_no "w"
 have hE' : EsOk es₆ (accM 0 (k₁ + 1)) 1 := by
  have := hE₆
  rw [zf2] at this
  exact this
 refine hQo _ _ <| Back.of (F₆.sub (news' := [(x, accO dx [] n'), (dx, dictOf es₆ kk₆)] ++ rest) ?_) fun G => h _ _ ⟨_, _, _, _, _, _, _, rfl, hE', .nil⟩ G
 simp only [List.set, List.cons_append, List.nil_append]
 exact .cons _ (.cons _ (.cons_cons _ (.cons_cons _ (List.sublist_append_right _ _))))
theorem zfi (R : Room (n + 12) A) (F : Fm w B L cl s₀ m cm (own ++ (own2 ++ rest)) s) (P : AccP x its init own) (P2 : LstP y its2 own2) (hz : its.length ≤ 900) (hz2 : its2.length ≤ 900)
  (h : ∀ own1 s', AccP x its2 0 own1 → Fm w B L cl s₀ m cm (own1 ++ rest) s' → Q .none s') :
  wpAny (M w) A (call (.ref a_Acc_reset) [.ref x, .ref y] []) Q E s := by
 refine zam (binds := [("self", .ref x), ("startval", .ref y)]) (fd := fd_Acc_reset) (cmF := fun _ => none) R F (zbH _) (zbI _) rfl (BindsTo.of_defaults (T := a_rsdef) rfl (F.K _ _ (rd_K _)) rfl (by with_unfolding_all rfl) (by kernel_rfl)) (by decide) (by kernel_rfl) (fun _ _ e => (by cases e)) (fun _ _ _ e => (by cases e)) ?_ rfl rfl rfl
 obtain ⟨dx, nn, k, vs, l, es, t, rfl, hE, hT⟩ := P
 obtain ⟨nn2, us, l2, rfl, hT2⟩ := P2
 intro Qo hQo L' s₁ hL F₁ R₁
 obtain ⟨h₁, g₁, d₁, k₁, o₁⟩ := s₁
 ktn_no "ast"
 ktn_no "w"
 (ktn_no "iN"; exact (show ¬ (Value.ref y == Value.none) = true from Bool.false_ne_true))
 ktn_no "w"
 refine wpAny_Assign_Subscript ?_ (by kernel_rfl)
 ktn_no "w"
 refine zdm ?_
 refine zaB ?_
 have F₄ := Fm.push (F₁.perm (news' := (x, accO dx vs nn) :: (dx, dictOf es k) :: (y, ⟨.type "list", none, .seq us.toArray nn2, #[]⟩) :: (l ++ l2 ++ rest)) (by ktn_no "perm_tac")) (slO .none .none .none) (tk := k₁)
 have hy₄ := F₄.at 0 rfl
 have hz₄ := F₄.at 3 rfl
 have hx₄ := F₄.at 1 rfl
 refine zbk F₄.K hx₄ (zcx F₄.K hx₄ hy₄ hz₄ (by rw [hT.len]; exact hz) (by rw [hT2.len]; exact hz2) ?_ fun h' n' hs hx' => ?_)
 ·exact F₄.ne (i := 1) (j := 3) rfl rfl (by decide)
 have F₅ := F₄.set (i := 1) rfl hs hx' (tk := k₁)
 ktn_no "w"
 refine zec F₅.K (F₅.at 1 rfl) (F₄.ne (i := 1) (j := 2) rfl rfl (by decide)) (F₅.at 2 rfl) hE (by ktn_no "om") fun h₆ k₆ kk₆ es₆ hs₆ hd₆ hE₆ => ?_
 have F₆ := F₅.set (i := 2) rfl hs₆ hd₆ (tk := k₆)
 ktn_no "w"
 have hE' : EsOk es₆ (accM 0 k₁) 1 := by
  have := hE₆
  rw [zf2] at this
  exact this
 refine hQo _ _ <| Back.of (F₆.sub (news' := (x, accO dx us n') :: (dx, dictOf es₆ kk₆) :: l2 ++ rest) ?_) fun G => h _ _ ⟨_, _, _, _, _, _, _, rfl, hE', hT2⟩ G
 simp only [List.set, List.cons_append, List.append_assoc]
 exact .cons _ (.cons_cons _ (.cons_cons _ (.cons _ (List.sublist_append_right _ _))))
end
section
variable {w : World} {A : Around} {E : Value → Shared → Prop} {h : Heap} {g : Array GenState} {d : Drawn} {tk : Nat} {os : OsState}
theorem acc_K (P : Params) : ∃ oc od cd sl, (KF P).lookup a_Acc = some ⟨oc, od, .cls cd, sl⟩ ∧ cd.mro = [.ref a_Acc, .type "list", .type "object"] ∧ cd.hasDel = false ∧ sl.toList[4]? = some (some (.builtin "list.__new__")) := ⟨_, _, _, _, rfl, rfl, rfl, rfl⟩
theorem zek {M : Model} {P : Params} (X : (KF P).In h) : Looks M h (mroOf (.ref a_Acc)) [.ref a_Acc, .type "list", .type "object"] := (looks_clsIn X (by ktn_no "k_ev")).andThen (Looks.of_pure (by kernel_rfl))
theorem zcK {M : Model} {P : Params} (X : (KF P).In h) : Looks M h (Bind.madeBy (.ref a_Acc)) (some "list.__new__") := by
 (refine x4_4 (acc_K P) ?_; intro oc od cd sl ho h1 h2 h3)
 intro A Q E s k q
 unfold Bind.madeBy
 refine wpAny_bind (zek X A _ E s k ?_)
 rw [List.forIn_cons]
 refine wpAny_bind (wpAny_bind (wpAny_bind (wpAny_bind (wpAny_loadPart (k _ _ (X _ _ ho)) (wpAny_pure ?_)))))
 dsimp only
 rw [← Array.getElem?_toList, h3]
 exact wpAny_pure (wpAny_pure (wpAny_pure q))
theorem zhv {M : Model} {P : Params} (X : (KF P).In h) : Looks M h (Bind.staticBase (.ref a_Acc)) (.ref a_Acc) := by
 intro A Q E s k q
 unfold Bind.staticBase
 refine wpAny_bind (zek X A _ E s k ?_)
 rw [List.forIn_cons]
 exact wpAny_bind (wpAny_bind (wpAny_bind (zcK X A _ E s k (wpAny_pure (wpAny_pure (wpAny_pure q))))))
theorem zcy {Q : Bool → Shared → Prop} (X : (KF w.params).In h) (q : Q true ⟨h, g, d, tk, os⟩) : wpAny (M w) A (isType (.ref a_Acc)) Q E ⟨h, g, d, tk, os⟩ := by
 (refine x4_4 (acc_K w.params) ?_; intro oc od cd sl ho h1 h2 h3)
 exact ks_wpAny_isType_cls (X _ _ ho) rfl q
theorem new_acc {rest : List Value} {R : Result → Shared → Prop} (X : (KF w.params).In h)
  (hq : R (.ok (.ret (.ref (h.objs.size + 1)))) ⟨(h.push (dictOf [] 0)).push (accO h.objs.size [] 0), g, d, tk, os⟩) :
  codeAny (M w) A (.call (.builtin "list.__new__") ⟨.ref a_Acc :: rest, []⟩) R ⟨h, g, d, tk, os⟩ := by
 (refine x4_4 (acc_K w.params) ?_; intro oc od cd sl ho h1 h2 h3)
 refine codeAny_call_builtin_code (plainId_quiet _root_.PySem.F.plain_list_new _) ?_
 have hk : builtinKind "list.__new__" = some .builtinFn := by decide +kernel
 have hsp : splitId "list.__new__" = some ("list", "__new__") := by decide +kernel
 unfold checkBuiltinCall
 rw [hk, hsp]
 dsimp only
 (ktn_no "iP"; exact (by decide))
 refine wpAny_bind (zcy X ?_)
 (ktn_no "iN"; exact (by decide))
 refine wpAny_bind (st_sub X (by ktn_no "k_ev") ?_)
 (ktn_no "iN"; exact (by decide))
 try dsimp only
 refine wpAny_bind (Looks.at (zhv X) ?_)
 refine wpAny_bind (Looks.at (zcK X) ?_)
 dsimp only
 (ktn_no "iN"; exact (by decide))
 have hs : ∃ S, Manifest.signature? "list.__new__" = some S ∧ Bind.checkArgs "list.__new__" S ⟨.ref a_Acc :: rest, []⟩ = pure () := ⟨_, by ktn_no "k_ev", by kernel_rfl⟩
 (refine x1_2 (hs) ?_; try clear hs; intro S hS hc)
 rw [hS]
 refine wpAny_of_eq hc ?_
 refine codeAny_builtin_stack _root_.PySem.F.entry_list_new rfl fun p st => ?_
 rw [Around.under_plainId _root_.PySem.F.plain_list_new _]
 have hown := owner_list_new
 simp only [hown]
 try dsimp only
 refine wpAny_bind (zcy X ?_)
 (ktn_no "iN"; exact (by decide))
 refine wpAny_bind (st_sub X (by ktn_no "k_ev") ?_)
 (ktn_no "iN"; exact (by decide))
 refine wpAny_bind (wpAny_pure ?_)
 (ktn_no "iN"; exact (by decide))
 unfold newDict
 refine wpAny_bind (wpAny_newObj_type ?_)
 dsimp only
 unfold newObj newObjAsIs classHasDel
 dsimp only
 refine wpAny_bind (wpAny_bind ?_)
 refine wpAny_alloc (wpAny_bind (wpAny_bind (wpAny_load (Heap.get?_push_of_some _ (Heap.get?_push_of_some _ (X _ _ ho))) ?_)))
 dsimp only
 rw [h2]
 refine wpAny_pure ?_
 (ktn_no "iN"; exact (by decide))
 refine wpAny_pure (wpAny_pure ?_)
 show R _ _
 rw [Heap.size_push]
 exact hq
theorem Room.tc {n : Nat} {C : Addr} {rest : List Value} (R : Room (n + 1) A) : Room n (A.under (.builtin "type.__call__" ⟨.ref C :: rest, []⟩)) := by
 obtain ⟨l, hl⟩ := R.frames
 have h1 : (Code.builtin "type.__call__" ⟨.ref C :: rest, []⟩).weight = 1 := by kernel_rfl
 have h2 : (Code.builtin "type.__call__" ⟨.ref C :: rest, []⟩).cUnits = 1 := by kernel_rfl
 have h3 : (Code.builtin "type.__call__" ⟨.ref C :: rest, []⟩).envs = [] := by kernel_rfl
 refine ⟨R.handled, ?_, ?_, l, ?_⟩
 ·show A.depth + (Code.builtin "type.__call__" ⟨.ref C :: rest, []⟩).weight + n ≤ 800
  rw [h1, Nat.add_right_comm]; exact R.depth
 ·show A.units + (Code.builtin "type.__call__" ⟨.ref C :: rest, []⟩).cUnits + _ ≤ 9000
  rw [h2]; exact rm_u (by decide) R.units
 ·show pushEnvs (Code.builtin "type.__call__" ⟨.ref C :: rest, []⟩).envs A.frames = _
  rw [h3, hl]; rfl
theorem zhL {rest : List Value} {Q : Value → Shared → Prop} (X : (KF w.params).In h)
  (hq : wpAny (M w) (A.under (.builtin "type.__call__" ⟨.ref a_Acc :: rest, []⟩)) (call (.ref a_Acc_dinit) (.ref (h.objs.size + 1) :: rest)) (fun v s' => v = .none ∧ Q (.ref (h.objs.size + 1)) s') (fun e s' => E e s') ⟨(h.push (dictOf [] 0)).push (accO h.objs.size [] 0), g, d, tk, os⟩) :
  wpAny (M w) A (call (.ref a_Acc) rest) Q E ⟨h, g, d, tk, os⟩ := by
 (refine x4_4 (acc_K w.params) ?_; intro oc od cd sl ho h1 h2 h3)
 refine wpAny_call (codeAny_of_tree ?_)
 show wpAny _ _ (callAny (.ref a_Acc) _) _ _ _
 unfold callAny
 refine wpAny_bind (wpAny_load (X _ _ ho) ?_)
 dsimp only
 unfold callAny.viaDunder
 refine wpAny_bind (zbj X (by ktn_no "k_ev") ?_)
 dsimp only
 rw [tc_bind]
 refine wpAny_bind (wpAny_pure (wpAny_bind (wpAny_pure ?_)))
 refine wpAny_pure (a := Fin.again (.call (.builtin "type.__call__") ⟨.ref a_Acc :: rest, []⟩)) (And.intro rfl ?_)
 refine codeAny_call_builtin_at (Code.quiet_builtin _ (by decide +kernel)) entry_typeCall (check_slot tc_kind tc_split (looks_instIn X (by ktn_no "k_ev")) (tc_args _ _ _) ?_)
 unfold Builtin.«type.__call__»
 dsimp only
 (ktn_no "iN"; exact (show ¬ (Value.ref a_Acc == Value.type "type") = true from Bool.false_ne_true))
 refine wpAny_bind (Looks.at (zek X) ?_)
 (ktn_no "iN"; exact (by decide))
 refine wpAny_bind (Looks.at (zcK X) ?_)
 dsimp only
 refine wpAny_bind (wpAny_pure (wpAny_bind (wpAny_holding (wpAny_call (new_acc X ?_)))))
 have X2 := pushIn (o := accO h.objs.size [] 0) (pushIn (o := dictOf [] 0) X)
 have hx : ((h.push (dictOf [] 0)).push (accO h.objs.size [] 0)).get? (h.objs.size + 1) = some (accO h.objs.size [] 0) := by
  have := Heap.get?_push_size (h.push (dictOf [] 0)) (o := accO h.objs.size [] 0) rfl
  rw [Heap.size_push] at this
  exact this
 refine wpAny_bind (zbA hx X2 (by ktn_no "k_ev") ?_)
 (ktn_no "iN"; exact (by decide))
 refine wpAny_bind (wpAny_holding ?_)
 unfold callSpecial?
 refine wpAny_bind (zaa hx X2 (by ktn_no "k_ev") ?_)
 dsimp only
 refine wpAny_holding (wpAny_bind (zaC X2 (by ktn_no "k_ev") (by decide +kernel) ?_))
 refine wpAny_bind (wpAny_mono hq (fun v s' hv => ?_) fun _ _ z => z)
 obtain ⟨rfl, hv⟩ := hv
 refine wpAny_pure ?_
 dsimp only
 (ktn_no "iN"; exact (by decide))
 exact wpAny_pure hv
end
section
variable {w : World} {B : Heap} {L : Addr} {m : PySem.Str → Option Value} {cl : List (PySem.Str × Addr)} {cm : PySem.Str → Option Value} {own rest news : List (Addr × Obj)} {s₀ s : Shared} {A : Around} {E : Value → Shared → Prop} {Q : Value → Shared → Prop} {n : Nat} {x dx : Addr} {its : List (PySem.Str × PySem.Str)} {init : Int}
theorem ze0 {h : Heap} {g : Array GenState} {d : Drawn} {tk : Nat} {os : OsState} {k : Nat} (hx : h.get? x = some (accO dx [] k))
  (q : ∀ h' n', Heap.SameBut x h h' → h'.get? x = some (accO dx [] n') → Q .none ⟨h', g, d, tk, os⟩) :
  wpAny (M w) A (Builtin.«list.__init__» ⟨[.ref x], []⟩) (fun fin s' => ∃ v, fin = .done (.ret v) ∧ Q v s') E ⟨h, g, d, tk, os⟩ := by
 unfold Builtin.«list.__init__»
 ktn_no "go"
 intro h1 n1 hs1 hx1
 unfold letGo
 ktn_no "go"
 exact ⟨_, rfl, q _ _ hs1 hx1⟩
theorem zgP {args : List Value} {k : Int} {t : Tok} (R : Room (n + 12) A) (F : Fm w B L cl s₀ m cm ((x, accO dx [] 0) :: (dx, dictOf [] 0) :: rest) s)
  (hbind : BindsTo s fd_Acc_dinit ⟨.ref x :: args, []⟩ [("self", .ref x), ("initial_size", .int k t)])
  (h : ∀ own' s', AccP x [] k own' → Fm w B L cl s₀ m cm (own' ++ rest) s' → Q .none s') :
  wpAny (M w) A (call (.ref a_Acc_dinit) (.ref x :: args) []) Q E s := by
 have CL := clo1 (P := w.params) (cl := fd_Acc_dinit.closure) (cc := a_cc) (cmF := cmC) (by kernel_rfl) (cc_K _) rfl (by decide)
 refine zbB (binds := [("self", .ref x), ("initial_size", .int k t)]) (fd := fd_Acc_dinit) (cmF := cmC) R F (zbE _) (zdf _) rfl hbind (by decide) (by kernel_rfl) CL.1 CL.2 ?_ rfl rfl rfl
 intro Qo hQo L' s₁ hL F₁ R₁
 obtain ⟨h₁, g₁, d₁, k₁, o₁⟩ := s₁
 ktn_no "ast_at"
 refine ks_wpAt_execs_cons (_root_.PySem.wpAt_of_wpAny ?_)
 ktn_no "w"
 have hne : x ≠ dx := F₁.ne (i := 0) (j := 1) rfl rfl (by decide)
 refine zec F₁.K (F₁.at 0 rfl) hne (F₁.at 1 rfl) (EsOk.nil 0) (by ktn_no "om") fun h₂ k₂ kk₂ es₂ hs₂ hd₂ hE₂ => ?_
 have F₂ := F₁.set (i := 1) rfl hs₂ hd₂ (tk := k₂)
 have hE : EsOk es₂ (accM k t) 1 := hE₂
 have hx₂ := F₂.at 0 rfl
 ktn_no "ast_at"
 refine ks_wpAt_execs_cons (ks_wpAt_Expr_any (mc_at ?_ (by kernel_rfl) (by kernel_rfl)) (by kernel_rfl) (by kernel_rfl))
 refine zcX (cc := a_cc) F₂ (zbE _) (by kernel_rfl) (by ktn_no "k_val") (by ktn_no "k_val") (by kernel_rfl) (by kernel_rfl) hx₂ (by ktn_no "k_ev") (by ktn_no "k_ev") (by ktn_no "k_ev") (by decide) (by kernel_rfl) (by kernel_rfl) (by kernel_rfl) rfl rfl rfl (by decide +kernel) (by first | boot_by_name | kernel_rfl) fun h₃ F₃ => ?_
 dsimp only
 have hx₃ := F₃.at 1 rfl
 have hso₃ := F₃.at 0 rfl
 refine zby (b := .none) F₃.K (F₃.nK (p := (x, _)) (.tail _ (.head _)) (by decide)) hso₃ (by decide) (by ktn_no "k_ev") (by ktn_no "k_ev") (by ktn_no "k_ev") (by ktn_no "k_ev") (by ktn_no "k_ev") ?_
 refine zew F₃.K hx₃ (by ktn_no "k_ev") (by ktn_no "k_ev") ⟨rfl, ?_⟩
 have F₄ := Fm.push F₃ (bndO "method-wrapper" "list.__init__" x) (tk := k₂ + 1)
 have hb₄ := F₄.at 0 rfl
 have hx₄ := F₄.at 2 rfl
 dsimp only
 refine cw_bnd0 hb₄ (.inl rfl) ?_
 refine zcQ (Bi := Builtin.«list.__init__») hb₄ (.inl rfl) (by decide +kernel) (entryFor_of_tree (by kernel_rfl)) (fun A Q E q => ?_) ?_
 ·exact wpAny_of_eq (show checkBoundCall "list.__init__" ⟨[.ref x], []⟩ = pure () by kernel_rfl) q
 refine ze0 hx₄ fun h' n' hs hx' => ?_
 have F₅ := ((F₄.set (i := 2) rfl hs hx' (tk := k₂ + 1)).drop 2)
 refine _root_.PySem.wpAt_of_wpAny ?_
 ktn_no "w"
 exact hQo _ _ <| Back.of (Fm.toks F₅ _) fun G => h [(x, accO dx [] n'), (dx, dictOf es₂ kk₂)] _ ⟨_, _, _, _, _, _, _, rfl, hE, .nil⟩ G
noncomputable abbrev a_inidef : Addr := match fd_Acc_dinit.defaults with | .ref a => a | _ => 0
theorem ini_K (P : Params) : (KF P).lookup a_inidef = some ((KF P).lookup a_inidef).get! := by kernel_rfl
theorem zeB {args : List Value} {k : Int} {t : Tok} (R : Room (n + 14) A) (F : Fm w B L cl s₀ m cm rest s)
  (hbind : ∀ (s : Shared) (x : Addr), (KF w.params).In s.heap → BindsTo s fd_Acc_dinit ⟨.ref x :: args, []⟩ [("self", .ref x), ("initial_size", .int k t)])
  (h : ∀ x own' s', AccP x [] k own' → Fm w B L cl s₀ m cm (own' ++ rest) s' → Q (.ref x) s') :
  wpAny (M w) A (call (.ref a_Acc) args []) Q E s := by
 obtain ⟨h₁, g₁, d₁, k₁, o₁⟩ := s
 refine zhL F.K ?_
 have F₁ := F.push (dictOf [] 0) (tk := k₁)
 have F₂ := F₁.push (accO h₁.objs.size [] 0) (tk := k₁)
 rw [show (h₁.push (dictOf [] 0)).objs.size = h₁.objs.size + 1 from Heap.size_push _ _] at F₂
 refine zgP (n := n) (rest := rest) (R.tc.less (by ktn_no "om")) F₂ (hbind _ _ F₂.K) fun own' s' P G => ⟨rfl, h _ _ _ P G⟩
theorem make0 (R : Room (n + 14) A) (F : Fm w B L cl s₀ m cm rest s) (h : ∀ x own' s', AccP x [] 0 own' → Fm w B L cl s₀ m cm (own' ++ rest) s' → Q (.ref x) s') :
  wpAny (M w) A (call (.ref a_Acc) [] []) Q E s := by
 refine zeB (n := n) (t := 449) R F (fun s x X => ?_) h
 exact BindsTo.of_defaults (T := a_inidef) rfl (X _ _ (ini_K _)) rfl (by with_unfolding_all rfl) (by kernel_rfl)
theorem make1 {k : Int} {t : Tok} (R : Room (n + 14) A) (F : Fm w B L cl s₀ m cm rest s) (h : ∀ x own' s', AccP x [] k own' → Fm w B L cl s₀ m cm (own' ++ rest) s' → Q (.ref x) s') :
  wpAny (M w) A (call (.ref a_Acc) [.int k t] []) Q E s := by
 refine zeB (n := n) (t := t) R F (fun s x X => ?_) h
 exact BindsTo.of_defaults (T := a_inidef) rfl (X _ _ (ini_K _)) rfl (by with_unfolding_all rfl) (by kernel_rfl)
end
section
open Builtin Builtin.ObjectAttr
noncomputable abbrev vfO (dv : Addr) : Obj := ⟨.ref a_VF, some dv, .plain, #[]⟩
section
variable {w : World} {A : Around} {E : Value → Shared → Prop} {x dv : Addr} {h : Heap} {g : Array GenState} {d : Drawn} {tk : Nat} {os : OsState} {v : Value} {k c : Nat} {es : List DictEntry} {mm : PySem.Str → Option Value} {name : PySem.Str}
theorem zge (hx : h.get? x = some (vfO dv)) {od : Obj} (hd : h.get? dv = some od) : InstAt h x (vfO dv) a_VF (some od) := ⟨hx, rfl, rfl, hd⟩
theorem vf_get {Q : Value → Shared → Prop} {ex : Bool} (X : (KF w.params).In h) (hx : h.get? x = some (vfO dv)) (hd : h.get? dv = some (dictOf es k)) (hD : EsOk es mm c) (hm : mm name = some v) (hv : handedIn v = true)
  (ha : findIn (KF w.params) (.ref a_VF) name = some none) (q : Q v ⟨h, g, d, tk + 1, os⟩) : wpAny (M w) A (getAttr (.ref x) name ex) Q E ⟨h, g, d, tk, os⟩ :=
 get_value X (zge hx hd) (by ktn_no "k_ev") (findObj_own (attr := none) (by ktn_no "k_ev") ha (by ktn_no "k_ev") (by rw [hD.look, hm])) hv q
theorem zcc {Q : Value × List Value → Shared → Prop} {pl : Sem Bool} {f : Addr} (X : (KF w.params).In h) (hx : h.get? x = some (vfO dv)) (hd : h.get? dv = some (dictOf es k)) (hD : EsOk es mm c)
  (hf : findIn (KF w.params) (.ref a_VF) name = some (some (.ref f))) (ht : typeIn (KF w.params) (.ref f) = some (.type "function")) (hm : mm name = none)
  (q : Q (.ref f, [.ref x]) ⟨h, g, d, tk, os⟩) : wpAny (M w) A (getMethod (.ref x) name pl) Q E ⟨h, g, d, tk, os⟩ :=
 method_fn X (zge hx hd) (by ktn_no "k_ev") (by ktn_no "k_ev") hf ht (by show Option.map _ (lookIn name (dictOf es k)) = _; rw [hD.look, hm]; rfl) q
theorem zfZ (l : List Value) (h : l = [.ref a_VF, .type "object"]) : refuseLoop (.ref x) "__setattr__" l = pure () := by
 subst h
 rw [refuseLoop_ref]
 exact PySem.F.store_object.passes _
theorem vf_set {Q : Unit → Shared → Prop} (X : (KF w.params).In h) (hx : h.get? x = some (vfO dv)) (hne : x ≠ dv) (hd : h.get? dv = some (dictOf es k)) (hD : EsOk es mm c) (hc : c ≤ 100) (ha : findIn (KF w.params) (.ref a_VF) name = some none)
  (q : ∀ h' tk' k' es', Heap.SameBut dv h h' → h'.get? dv = some (dictOf es' k') → EsOk es' (upd mm name v) (if (mm name).isSome then c else c + 1) → Q () ⟨h', g, d, tk', os⟩) : wpAny (M w) A (setAttr (.ref x) name v) Q E ⟨h, g, d, tk, os⟩ := by
 unfold setAttr
 ktn_no "go"
 refine zav (i := "object.__setattr__") (owner := "object") (n := "__setattr__") (b := Builtin.«object.__setattr__») (by first | exact .inr (by decide +kernel) | exact .inl (by decide +kernel)) (by decide +kernel) (by decide +kernel) (entryFor_of_tree (by kernel_rfl)) (by unfold argsOk; kernel_rfl) (zah hx X (by ktn_no "k_ev")) ?_
 rw [show (Value.ref x :: [].append [Value.str name tk, v]) = [Value.ref x, Value.str name tk, v] from rfl, osa_eq, refuse_eq]
 refine wpAny_bind (wpAny_bind (zbh hx (wpAny_bind ?_)))
 refine Looks.at (r := [.ref a_VF, .type "object"]) ((looks_clsIn X (by ktn_no "k_ev")).andThen (Looks.of_pure (by kernel_rfl))) ?_
 rw [zfZ _ rfl]
 have LI : Looks (model pw w) h (instanceDict x true) (some dv) := zb1 X hx rfl (by ktn_no "k_ev") rfl
 ktn_no "go"
 refine zcj X ha ?_
 repeat (first | (with_reducible refine zeD hd hD ?_) | (with_reducible refine Looks.at LI ?_; dsimp only) | (ktn_no "no_call"; ktn_no "st_one"))
 intro h' k' es' hs h1 hE
 refine wpAny_bind (wpAny_lookBehind h1 ?_ ?_)
 ·show Data.pastItsLine (.dict es'.toArray k') = none
  have := hE.len
  split at this <;> exact if_neg (by show ¬ es'.length > 16777216 + 1; ktn_no "o4")
 ktn_no "go"
 exact ⟨_, rfl, wpAny_pure (wpAny_pure (q _ _ _ _ hs h1 hE))⟩
end
end
section
variable {w : World} {A : Around} {E : Value → Shared → Prop} {h : Heap} {g : Array GenState} {d : Drawn} {tk : Nat} {os : OsState}
theorem vf_new {x dv : Addr} {v : Value} {k c : Nat} {es : List DictEntry} {mm : PySem.Str → Option Value} {name : PySem.Str} {Q : Unit → Shared → Prop} (X : (KF w.params).In h) (hx : h.get? x = some (vfO dv)) (hne : x ≠ dv) (hd : h.get? dv = some (dictOf es k)) (hD : EsOk es mm c) (hc : c ≤ 100) (ha : findIn (KF w.params) (.ref a_VF) name = some none) (hm : mm name = none)
  (q : ∀ h' tk' k' es', Heap.SameBut dv h h' → h'.get? dv = some (dictOf es' k') → EsOk es' (upd mm name v) (c + 1) → Q () ⟨h', g, d, tk', os⟩) : wpAny (M w) A (setAttr (.ref x) name v) Q E ⟨h, g, d, tk, os⟩ :=
 vf_set X hx hne hd hD hc ha fun h' tk' k' es' a b c => q h' tk' k' es' a b (by simpa [hm] using c)
theorem make_vf {rest : List Value} {Q : Value → Shared → Prop} (X : (KF w.params).In h)
  (hq : wpAny (M w) (A.under (.builtin "type.__call__" ⟨.ref a_VF :: rest, []⟩)) (call (.ref a_VF_dinit) (.ref (h.objs.size + 1) :: rest)) (fun v s' => v = .none ∧ Q (.ref (h.objs.size + 1)) s') (fun e s' => E e s') ⟨(h.push (dictOf [] 0)).push (vfO h.objs.size), g, d, tk, os⟩) :
  wpAny (M w) A (call (.ref a_VF) rest) Q E ⟨h, g, d, tk, os⟩ := by
 have Y := makes_of (M := M w) X (C := a_VF) (by kernel_rfl)
 have Y' := Y
 obtain ⟨⟨oc, od, cd, sl, hC, e1, e2, e4⟩, made, base, self, top, call, typ⟩ := Y
 have hm : Looks (M w) h (mroOf (.ref a_VF)) cd.mro := ((Looks.ld (part := none) hC).andThen .now).andThen .now
 refine wpAny_call (codeAny_of_tree ?_)
 show wpAny _ _ (callAny (.ref a_VF) _) _ _ _
 unfold callAny
 refine wpAny_bind (wpAny_load hC ?_)
 dsimp only
 unfold callAny.viaDunder
 refine wpAny_bind (Looks.at call ?_)
 dsimp only
 rw [tc_bind]
 refine wpAny_bind (wpAny_pure (wpAny_bind (wpAny_pure ?_)))
 refine wpAny_pure (a := Fin.again (.call (.builtin "type.__call__") ⟨.ref a_VF :: rest, []⟩)) (And.intro rfl ?_)
 refine codeAny_call_builtin_at (Code.quiet_builtin _ (by decide +kernel)) entry_typeCall (check_slot tc_kind tc_split typ (tc_args _ _ _) ?_)
 unfold Builtin.«type.__call__»
 dsimp only
 (ktn_no "iN"; exact (show ¬ (Value.ref a_VF == Value.type "type") = true from Bool.false_ne_true))
 refine wpAny_bind (Looks.at hm ?_)
 rw [e4, if_neg (by decide)]
 refine wpAny_bind (Looks.at made ?_)
 dsimp only
 refine wpAny_bind (wpAny_pure (wpAny_bind (wpAny_holding (wpAny_call (new_K Y' (looks_findIn X (r := some (.ref a_VF_dinit)) (by ktn_no "k_ev")) (.inl (by decide)) ?_)))))
 have X2 := pushIn (o := vfO h.objs.size) (pushIn (o := dictOf [] 0) X)
 have hx : ((h.push (dictOf [] 0)).push (vfO h.objs.size)).get? (h.objs.size + 1) = some (vfO h.objs.size) := by
  have := Heap.get?_push_size (h.push (dictOf [] 0)) (o := vfO h.objs.size) rfl
  rw [Heap.size_push] at this
  exact this
 refine wpAny_bind (zbA hx X2 (by ktn_no "k_ev") ?_)
 (ktn_no "iN"; exact (by decide))
 refine wpAny_bind (wpAny_holding ?_)
 unfold callSpecial?
 refine wpAny_bind (zaa hx X2 (by ktn_no "k_ev") ?_)
 dsimp only
 refine wpAny_holding (wpAny_bind (zaC X2 (by ktn_no "k_ev") (by decide +kernel) ?_))
 refine wpAny_bind (wpAny_mono hq (fun v s' hv => ?_) fun _ _ z => z)
 obtain ⟨rfl, hv⟩ := hv
 refine wpAny_pure ?_
 dsimp only
 (ktn_no "iN"; exact (by decide))
 exact wpAny_pure hv
end
section
variable {w : World} {B : Heap} {L : Addr} {m : PySem.Str → Option Value} {cl : List (PySem.Str × Addr)} {cm : PySem.Str → Option Value} {news : List (Addr × Obj)} {s₀ s : Shared} {A : Around} {E : Value → Shared → Prop} {Q : Value → Shared → Prop} {h : Heap} {g₀ : Array GenState} {d₀ : Drawn} {tk₀ : Nat} {os₀ : OsState} {env : Env} {pos : Pos}
theorem Fm.set1 {g : Array GenState} {d : Drawn} {tk : Nat} (F : Fm w B L cl s₀ m cm news ⟨h, g, d₀, tk₀, os₀⟩) {i : Nat} {x : Addr} {o o' : Obj} (hi : news[i]? = some (x, o)) {h' : Heap} (hs : Heap.SameBut x h h') (ho : h'.get? x = some o') : Fm w B L cl s₀ m cm (news.set i (x, o')) ⟨h', g, d, tk, os₀⟩ := Fm.set (s := ⟨h, g, d, tk, os₀⟩) F.withD hi hs ho
theorem Fm.push1 {g : Array GenState} {d : Drawn} {tk : Nat} (F : Fm w B L cl s₀ m cm news ⟨h, g, d₀, tk₀, os₀⟩) (o : Obj) (hf : o.isFreed = false := by rfl) : Fm w B L cl s₀ m cm ((h.objs.size, o) :: news) ⟨h.push o, g, d, tk, os₀⟩ := Fm.push (s := ⟨h, g, d, tk, os₀⟩) F.withD o hf
theorem FmK (F : Fm w B L cl s₀ m cm news ⟨h, g₀, d₀, tk₀, os₀⟩) : (KF w.params).In h := F.K
theorem cw_f {f : Addr} {first : List Value} {e : Expr} {rest : List Expr} (F : Fm w B L cl s₀ m cm news ⟨h, g₀, d₀, tk₀, os₀⟩) (hk : keepIn (KF w.params) (.ref f) = true) (he : starEach (e :: rest) env = (false, eval e env) :: starEach rest env) (hp : (backTo pos (starEach rest env)).any (·.1) = false)
  (q : wpAny (M w) A (spliced (backTo pos (starEach (e :: rest) env))) (fun vs s₁ => (KF w.params).In s₁.heap ∧ wpAny (M w) A (call (.ref f) (first ++ vs)) Q E s₁) E s) :
  wpAny (M w) A (callWith pos (.ref f) first (backTo pos (starEach (e :: rest) env)) []) Q E s := callWith_K F.K hk q he hp
theorem cw_r0 {f : Addr} {first : List Value} (F : Fm w B L cl s₀ m cm news ⟨h, g₀, d₀, tk₀, os₀⟩) (hk : keepIn (KF w.params) (.ref f) = true) {g : Array GenState} {d : Drawn} {tk : Nat} {os : OsState} (q : wpAny (M w) A (call (.ref f) first) Q E ⟨h, g, d, tk, os⟩) :
  wpAny (M w) A (callWith pos (.ref f) first (backTo pos (starEach [] env)) []) Q E ⟨h, g, d, tk, os⟩ := cw_f0 (s := ⟨h, g, d, tk, os⟩) F.K hk q
end
local macro_rules | `(tactic| ktn_no "x1") => `(tactic| first
 | ktn_no "w1"
 | (with_reducible refine Call_ ?_ ?a1; (case a1 => kernel_rfl))
 | (with_reducible refine cw_f (by assumption) ?a0 ?a1 ?a2 ?_; (case a0 => kernel_rfl); (case a1 => kernel_rfl); (case a2 => kernel_rfl))
 | (with_reducible refine cw_r0 (by assumption) ?a1 ?_; (case a1 => kernel_rfl))
 | (with_reducible refine cw_t ?_ ?a1 ?a2; (case a1 => kernel_rfl); (case a2 => kernel_rfl))
 | (with_reducible refine And.intro (FmK (by assumption)) ?_; try dsimp only)
 | (with_reducible refine st_L (by assumption) ?a1 ?a2 ?a3 (fun _ _ => ?_); (case a1 => kernel_rfl); (case a2 => kernel_rfl!); (case a3 => kernel_rfl)))
local macro_rules | `(tactic| ktn_no "x") => `(tactic| repeat ktn_no "x1")
noncomputable abbrev lsO (l : List Value) (n : Nat) : Obj := ⟨.type "list", none, .seq l.toArray n, #[]⟩
noncomputable abbrev vfM (mx : Int) (t1 : Tok) (t2 : Tok) (t3 : Tok) (sc : PySem.Str) (t4 : Tok) (ll ac : Addr) : PySem.Str → Option Value :=
 upd (upd (upd (upd (upd (upd (fun _ => none) "_maxlen" (.int mx t1)) "_continuation_ws" (.str "" t2)) "_continuation_ws_len" (.int 0 t3)) "_splitchars" (.str sc t4)) "_lines" (.ref ll)) "_current_line" (.ref ac)
inductive VfP (x : Addr) (mx : Int) (sc : PySem.Str) (lines : List PySem.Str) (its : List (PySem.Str × PySem.Str)) (own : List (Addr × Obj)) : Prop
 | mk (dv : Addr) (k : Nat) (es : List DictEntry) (t1 t2 t3 t4 : Tok) (ll ac : Addr) (l : List (PySem.Str × Tok)) (n : Nat) (oa : List (Addr × Obj)) (e : own = (x, vfO dv) :: (dv, dictOf es k) :: (ll, lsO (strValues l) n) :: oa) (hE : EsOk es (vfM mx t1 t2 t3 sc t4 ll ac) 6) (hl : l.map (·.1) = lines) (hP : AccP ac its 0 oa) : VfP x mx sc lines its own
section
variable {w : World} {B : Heap} {L : Addr} {m : PySem.Str → Option Value} {cl : List (PySem.Str × Addr)} {cm : PySem.Str → Option Value} {own rest news : List (Addr × Obj)} {s₀ s : Shared} {A : Around} {E : Value → Shared → Prop} {Q : Value → Shared → Prop} {n : Nat} {x dx : Addr} {its : List (PySem.Str × PySem.Str)} {init : Int}
theorem vf_init {mx : Int} {sc : PySem.Str} {t0 t1 t2 t4 : Tok} (R : Room (n + 16) A) (F : Fm w B L cl s₀ m cm ((x, vfO dx) :: (dx, dictOf [] 0) :: rest) s)
  (h : ∀ own' s', VfP x mx sc [] [] own' → Fm w B L cl s₀ m cm (own' ++ rest) s' → Q .none s') :
  wpAny (M w) A (call (.ref a_VF_dinit) [.ref x, .int 0 t0, .int mx t1, .str "" t2, .str sc t4] []) Q E s := by
 refine zam (binds := [("self", .ref x), ("headerlen", .int 0 t0), ("maxlen", .int mx t1), ("continuation_ws", .str "" t2), ("splitchars", .str sc t4)]) (fd := fd_VF_dinit) (cmF := fun _ => none) R F (zdN _) (zdQ _) rfl (BindsTo.of_eq rfl) (by decide) (by kernel_rfl) (fun _ _ e => (by cases e)) (fun _ _ _ e => (by cases e)) ?_ rfl rfl rfl
 intro Qo hQo L' s₁ hL F₁ R₁
 obtain ⟨h₁, g₁, d₁, k₁, o₁⟩ := s₁
 have hne : x ≠ dx := F₁.ne (i := 0) (j := 1) rfl rfl (by decide)
 ktn_no "ast"
 ktn_no "x"
 refine vf_new F₁.K (F₁.at 0 rfl) hne (F₁.at 1 rfl) (EsOk.nil 0) (by ktn_no "om") (by ktn_no "k_ev") (by kernel_rfl) fun h₂ k₂ kk₂ es₂ hs₂ hd₂ hE₂ => ?_
 have F₂ := F₁.set1 (i := 1) (d := d₁) (tk := k₂) rfl hs₂ hd₂
 ktn_no "x"
 refine vf_new F₂.K (F₂.at 0 rfl) hne (F₂.at 1 rfl) hE₂ (by ktn_no "om") (by ktn_no "k_ev") (by kernel_rfl) fun h₃ k₃ kk₃ es₃ hs₃ hd₃ hE₃ => ?_
 have F₃ := F₂.set1 (i := 1) (d := d₁) (tk := k₃) rfl hs₃ hd₃
 ktn_no "x"
 refine SBL.len (by decide) ?_
 ktn_no "x"
 refine vf_new F₃.K (F₃.at 0 rfl) hne (F₃.at 1 rfl) hE₃ (by ktn_no "om") (by ktn_no "k_ev") (by kernel_rfl) fun h₄ k₄ kk₄ es₄ hs₄ hd₄ hE₄ => ?_
 have F₄ := F₃.set1 (i := 1) (d := d₁) (tk := k₄) rfl hs₄ hd₄
 ktn_no "x"
 refine vf_new F₄.K (F₄.at 0 rfl) hne (F₄.at 1 rfl) hE₄ (by ktn_no "om") (by ktn_no "k_ev") (by kernel_rfl) fun h₅ k₅ kk₅ es₅ hs₅ hd₅ hE₅ => ?_
 have F₅ := F₄.set1 (i := 1) (d := d₁) (tk := k₅) rfl hs₅ hd₅
 ktn_no "x"
 refine zap (by simp) ?_
 have F₆ := F₅.push1 (d := d₁) (tk := k₅) (lsO [] 0)
 ktn_no "x"
 refine vf_new F₆.K (F₆.at 1 rfl) hne (F₆.at 2 rfl) hE₅ (by ktn_no "om") (by ktn_no "k_ev") (by kernel_rfl) fun h₇ k₇ kk₇ es₇ hs₇ hd₇ hE₇ => ?_
 have F₇ := F₆.set1 (i := 2) (d := d₁) (tk := k₇) rfl hs₇ hd₇
 ktn_no "x"
 refine make1 (n := n + 1) (R₁.less (by ktn_no "le")) F₇ fun ac oa s' P F₈ => ?_
 obtain ⟨h₈, g₈, d₈, k₈, o₈⟩ := s'
 have F₉ := F₈.perm (news' := (x, vfO dx) :: (dx, dictOf es₇ kk₇) :: (h₅.objs.size, lsO [] 0) :: (oa ++ rest)) (by simp only [List.set]; ktn_no "perm_tac")
 ktn_no "x"
 refine vf_new F₉.K (F₉.at 0 rfl) hne (F₉.at 1 rfl) hE₇ (by ktn_no "om") (by ktn_no "k_ev") (by kernel_rfl) fun h' k' kk' es' hs' hd' hE' => ?_
 have F' := F₉.set1 (i := 1) (d := d₈) (tk := k') rfl hs' hd'
 ktn_no "x"
 refine hQo _ _ <| Back.of F' fun G => h ((x, vfO dx) :: (dx, dictOf es' kk') :: (h₅.objs.size, lsO [] 0) :: oa) _ ⟨_, _, _, _, _, _, _, _, _, [], _, _, rfl, hE', rfl, P⟩ (by simpa using G)
end
noncomputable abbrev NoE : Value → Shared → Prop := fun _ _ => False
noncomputable def LoopC (w : World) (A : Around) (target : Expr) (it : Value) (body orelse : List Stmt) (env : Env) (Q : Flow → Shared → Prop) (s : Shared) : Prop :=
 codeAny (M w) A (.forLoop target it body orelse env) (fun r s' => match r with | .ok f => Q f s' | .error _ => False) s
section
variable {w : World} {A : Around} {s : Shared} {target iter : Expr} {it : Value} {body orelse : List Stmt} {env : Env} {Q : Flow → Shared → Prop} {pos : Pos}
theorem zab (h : wpAny (M w) A (pyNext it) (fun r s₁ => match r with
      | none => wpAny (M w) A (execs orelse env) Q NoE s₁
      | some v => wpAny (M w) A (letOwnedTupleGo target it v) (fun _ s₁' => wpAny (M w) A (assign target env v) (fun _ s₂ => wpAny (M w) A (execs body env) (fun f s₃ => match f with
        | .next => LoopC w A target it body orelse env Q s₃
        | .cont => LoopC w A target it body orelse env Q s₃
        | .brk => Q .next s₃
        | .ret v => Q (.ret v) s₃) NoE s₂) NoE s₁') NoE s₁) NoE s) : LoopC w A target it body orelse env Q s := by
 unfold LoopC
 refine codeAny_of_tree ?_
 rw [Around.under_of_weight rfl]
 show wpAny _ A ((forTurn target it body orelse env).onRaise (fun x => do noteFrame x env; theTreesLotGoes x)) _ _ s
 refine wpAny_onRaise ?_
 unfold forTurn
 refine wpAny_bind (wpAny_standAt (wpAny_bind (wpAny_onRaise (wpAny_mono h (fun r s₁ h₁ => ?_) fun _ _ z => z.elim))))
 cases r with
 | none =>
  refine wpAny_pure ⟨rfl, codeAny_block (wpAny_mono h₁ (fun _ _ z => z) fun _ _ z => z.elim)⟩
 | some v =>
  refine wpAny_bind (wpAny_mono h₁ (fun _ s₁' h₁' => ?_) fun _ _ z => z.elim)
  refine wpAny_bind (wpAny_mono h₁' (fun _ s₂ h₂ => wpAny_bind (wpAny_mono h₂ (fun f s₃ h₃ => ?_) fun _ _ z => z.elim)) fun _ _ z => z.elim)
  cases f with
  | next => exact wpAny_pure ⟨rfl, h₃⟩
  | cont => exact wpAny_pure ⟨rfl, h₃⟩
  | brk => exact wpAny_pure h₃
  | ret v => exact wpAny_pure h₃
theorem wFor (h : wpAny (M w) A (eval iter env) (fun xv s₁ => wpAny (M w) A (pyIter xv) (fun it s₂ => LoopC w A target it body orelse env Q s₂) NoE s₁) NoE s)
  (hs : ∀ x, foldedSetIterable iter env x = pure x) : wpAny (M w) A (exec (.For target iter body orelse pos) env) Q NoE s := by
 refine wpAny_For (wpAny_mono h (fun xv s₁ h₁ => wpAny_mono h₁ (fun it s₂ h₂ => ?_) fun _ _ z => z) fun _ _ z => z) hs
 refine codeAny_mono h₂ fun r s' z => ?_
 cases r with
 | ok f => exact z
 | error e => exact z.elim
end
structure Steps (w : World) (I : Addr) (n : Nat) (P : Nat → Value → Prop) (Ob : Nat → Obj → Prop) (Sd : Heap → Prop) : Prop where
 item : ∀ (A : Around) (i : Nat) (h : Heap) (g : Array GenState) (d : Drawn) (tk : Nat) (os : OsState) (o : Obj) (Q : Option Value → Shared → Prop) (E : Value → Shared → Prop), i < n → h.get? I = some o → Ob i o → Sd h →
  (∀ v h' tk' o', P i v → Ob (i + 1) o' → h'.get? I = some o' → Heap.SameBut I h h' → Q (some v) ⟨h', g, d, tk', os⟩) → wpAny (M w) A (pyNext (.ref I)) Q E ⟨h, g, d, tk, os⟩
 done : ∀ (A : Around) (h : Heap) (g : Array GenState) (d : Drawn) (tk : Nat) (os : OsState) (o : Obj) (Q : Option Value → Shared → Prop) (E : Value → Shared → Prop), A.handled = none → h.get? I = some o → Ob n o → Sd h →
  (∀ h' tk', (∀ b ob, b ≠ I → h.get? b = some ob → h'.get? b = some ob) → Q none ⟨h', g, d, tk', os⟩) → wpAny (M w) A (pyNext (.ref I)) Q E ⟨h, g, d, tk, os⟩
section
variable {w : World} {B : Heap} {L I : Addr} {m : PySem.Str → Option Value} {cl : List (PySem.Str × Addr)} {cm : PySem.Str → Option Value} {rest news : List (Addr × Obj)} {s₀ s : Shared} {A : Around} {E : Value → Shared → Prop} {h : Heap} {g : Array GenState} {d d₀ : Drawn} {tk tk₀ : Nat} {os : OsState} {o : Obj} {n i : Nat} {P : Nat → Value → Prop} {Ob : Nat → Obj → Prop} {Sd : Heap → Prop} {Q : Option Value → Shared → Prop}
theorem Fm.lose (F : Fm w B L cl s₀ m cm ((I, o) :: news) s) {h' : Heap} {tk : Nat} (k : ∀ b ob, b ≠ I → s.heap.get? b = some ob → h'.get? b = some ob) : Fm w B L cl s₀ m cm news { s with heap := h', toks := tk } := by
 (refine x0_4 (F.nw _ (.head _)) ?_; intro hI hIL hIB hIs)
 have nI : ∀ t, Tab t → t ≠ I := fun t ht e => tab_ne ht hIs e.symm
 have hnd := List.nodup_cons.mp F.nd
 (refine x3_2 (F.ns) ?_; intro oL es ep hL r)
 refine { wf := F.wf, ns := ⟨oL, es, ep, k _ _ hIL.symm hL, r⟩, keep := fun b ob e => k b ob (fun q => by rw [q, hIB] at e; cases e) (F.keep b ob e), above := F.above, nw := fun p hp => ?_, nd := hnd.2, ce := fun n c e => ?_, cd := fun n c e => ?_, cp := F.cp, tb := F.tb.part fun b ob hb e => k b ob (fun q => absurd hb (by rw [q]; exact Nat.not_lt.mpr hIs)) e, rl := ⟨F.rl.os, F.rl.gens, F.rl.bare, fun t ht ps e => ?_, trivial⟩ }
 ·(refine x0_4 (F.nw p (.tail _ hp)) ?_; intro a b c d)
  exact ⟨k _ _ (fun q => hnd.1 (List.mem_map.mpr ⟨p, hp, q⟩)) a, b, c, d⟩
 ·(refine x1_2 (F.ce n c e) ?_; intro oc hoc hd)
  exact ⟨oc, k _ _ (fun q => (F.cd n c e).2.1 (by rw [q]; exact .head _)) hoc, hd⟩
 ·(refine x0_3 (F.cd n c e) ?_; intro a b c')
  exact ⟨a, fun q => b (.tail _ q), c'⟩
 ·obtain ⟨m, e'⟩ := F.rl.tg t ht ps e
  exact ⟨m, k _ _ (nI t ht) e'⟩
theorem Fm.nextI (F : Fm w B L cl s₀ m cm ((I, o) :: news) ⟨h, g, d₀, tk₀, os⟩) (S : Steps w I n P Ob Sd) (hi : i < n) (ho : Ob i o) (hs : Sd h)
  (q : ∀ v h' tk' o', P i v → Ob (i + 1) o' → Fm w B L cl s₀ m cm ((I, o') :: news) ⟨h', g, d, tk', os⟩ → Q (some v) ⟨h', g, d, tk', os⟩) : wpAny (M w) A (pyNext (.ref I)) Q E ⟨h, g, d, tk, os⟩ :=
 S.item A i h g d tk os o Q E hi (F.at 0 rfl) ho hs fun v h' tk' o' hv ho' hI' hs' => q v h' tk' o' hv ho' (F.set1 (i := 0) rfl hs' hI')
theorem Fm.endI (F : Fm w B L cl s₀ m cm ((I, o) :: news) ⟨h, g, d₀, tk₀, os⟩) (S : Steps w I n P Ob Sd) (hh : A.handled = none) (hi : i = n) (ho : Ob i o) (hs : Sd h)
  (q : ∀ h' tk', Fm w B L cl s₀ m cm news ⟨h', g, d, tk', os⟩ → Q none ⟨h', g, d, tk', os⟩) : wpAny (M w) A (pyNext (.ref I)) Q E ⟨h, g, d, tk, os⟩ :=
 S.done A h g d tk os o Q E hh (F.at 0 rfl) (hi ▸ ho) hs fun h' tk' k => q h' tk' (Fm.lose (s := ⟨h, g, d, tk, os⟩) F.withD k)
end
theorem zaf {w : World} (I : Addr) (a c : Int) (n : Nat) : Steps w I n (fun i v => ∃ t, v = .int (a + i * c) t) (fun i o => o = ⟨.type "range_iterator", none, .fields #[rawInt (a + (i : Nat) * c), rawInt ((n : Int) - (i : Nat)), rawInt c], #[]⟩) (fun _ => True) where
 item := fun A i h g d tk os o Q E hi hI ho _ q => by
  subst ho
  refine wpAny_pyNext_range_item (s := ⟨h, g, d, tk, os⟩) hI (by ktn_no "om") fun h' hit' hs' => ?_
  refine q _ h' _ _ ⟨_, rfl⟩ ?_ hit' hs'
  have e1 : a + ((i + 1 : Nat) : Int) * c = a + (i : Int) * c + c := by push_cast; rw [Int.add_mul, Int.one_mul, Int.add_assoc]
  have e2 : (n : Int) - ((i + 1 : Nat) : Int) = (n : Int) - (i : Int) - 1 := by push_cast; ktn_no "o4"
  rw [e1, e2]
 done := fun A h g d tk os o Q E hh hI ho _ q => by
  subst ho
  refine wpAny_pyNext_range_end (s := ⟨h, g, d, tk, os⟩) hh hI (by ktn_no "om") fun h' he' => q h' tk fun b ob hb e => he' b ob hb e
theorem zgr {w : World} (I : Addr) (x : PySem.Str) (t : Tok) : Steps w I x.cps.size (fun i v => ∃ c t, x.cps[i]? = some c ∧ v = .str ⟨#[c]⟩ t) (fun i o => o.cls = .type "str_ascii_iterator" ∧ o.data = .fields #[.str x t, .int i 0]) (fun _ => True) where
 item := fun A i h g d tk os o Q E hi hI ho _ q => by
  refine wpAny_pyNext_ascii_item (s := ⟨h, g, d, tk, os⟩) (c := x.cps[i]) ⟨o, hI, ho⟩ (by simp [hi]) fun h' hit' hs' => ?_
  (refine x1_2 (hit') ?_; try clear hit'; intro o' hI' ho')
  exact q _ h' _ o' ⟨_, _, by simp [hi], rfl⟩ ho' hI' hs'
 done := fun A h g d tk os o Q E hh hI ho _ q => wpAny_pyNext_ascii_end (s := ⟨h, g, d, tk, os⟩) hh ⟨o, hI, ho⟩ (by simp) fun h' he' => q h' tk fun b ob hb e => he' b ob hb e
theorem zag {w : World} (I x : Addr) (vs : List Value) : Steps w I vs.length (fun i v => vs[i]? = some v) (fun i o => o = itO x i) (fun h => ∃ o n, h.get? x = some o ∧ o.data = .seq vs.toArray n) where
 item := fun A i h g d tk os o Q E hi hI ho ⟨ox, n, hx, hd⟩ q => by
  subst ho
  obtain ⟨v, hv⟩ : ∃ v, vs[i]? = some v := ⟨_, List.getElem?_eq_getElem hi⟩
  exact zgf hI hx hd hv fun h' hs' hI' => q v h' tk _ hv rfl hI' hs'
 done := fun A h g d tk os o Q E hh hI ho ⟨ox, n, hx, hd⟩ q => by
  subst ho
  exact it_end hh hI hx hd (Nat.le_refl _) fun h' k => q h' tk k
section
variable {w : World} {B : Heap} {L I : Addr} {m : PySem.Str → Option Value} {cl : List (PySem.Str × Addr)} {cm : PySem.Str → Option Value} {rest news : List (Addr × Obj)} {s₀ s : Shared}
theorem Fm.keepAll {h : Heap} {g : Array GenState} {d d₀ : Drawn} {tk tk₀ : Nat} {os : OsState} (F : Fm w B L cl s₀ m cm news ⟨h, g, d₀, tk₀, os⟩) {h' : Heap} (k : ∀ b o, h.get? b = some o → h'.get? b = some o) : Fm w B L cl s₀ m cm news ⟨h', g, d, tk, os⟩ where
 wf := F.wf
 ns := F.ns.keeps k
 keep := fun b o e => k b o (F.keep b o e)
 above := F.above
 nw := fun p hp => let ⟨a, r⟩ := F.nw p hp; ⟨k _ _ a, r⟩
 nd := F.nd
 ce := fun n c e => (F.ce n c e).keeps k
 cd := F.cd
 cp := F.cp
 tb := F.tb.keeps k
 rl := ⟨F.rl.os, F.rl.gens, F.rl.bare, fun t ht ps e => (let ⟨m, e'⟩ := F.rl.tg t ht ps e; ⟨m, k _ _ e'⟩), trivial⟩
theorem zbN {h h' : Heap} (he : Heap.ExtBut h.objs.size h h') : ∀ b o, h.get? b = some o → h'.get? b = some o := fun b o e => he b o (fun q => absurd (Heap.lt_size e) (by rw [q]; exact Nat.lt_irrefl _)) e
end
section
variable {w : World} {A : Around} {E : Value → Shared → Prop} {x dx y : Addr} {vs : List Value} {n : Nat} {h : Heap} {g : Array GenState} {d : Drawn} {tk : Nat} {os : OsState}
theorem zfB {i : Int} {j : Nat} {ti : Tok} {v : Value} {Q : Value → Shared → Prop} (X : (KF w.params).In h) (hx : h.get? x = some (accO dx vs n)) (hi : i = j) (hj : j < 1000) (hv : vs[j]? = some v) (q : Q v ⟨h, g, d, tk, os⟩) :
  wpAny (M w) A (call (.builtin "list.__getitem__") [.ref x, .int i ti]) Q E ⟨h, g, d, tk, os⟩ := by
 refine zav (i := "list.__getitem__") (owner := "list") (n := "__getitem__") (b := Builtin.«list.__getitem__») (by first | exact .inr (by decide +kernel) | exact .inl (by decide +kernel)) (by decide +kernel) (by decide +kernel) (entryFor_of_tree (by kernel_rfl)) (by unfold argsOk; kernel_rfl) (zah hx X (by ktn_no "k_ev")) ?_
 have hfit : Builtin.List.listFitsIndex i = true := by
  unfold Builtin.List.listFitsIndex
  simp only [Bool.and_eq_true, decide_eq_true_eq]
  exact hi ▸ ⟨Int.le_trans (by decide) (Int.natCast_nonneg j), Int.lt_trans (Int.ofNat_lt.mpr hj) (by decide)⟩
 unfold Builtin.«list.__getitem__»
 ktn_no "no_call"
 ktn_no "st_one"
 ktn_no "st_one"
 ktn_no "st_one"
 ktn_no "st_one"
 refine wpAny_pure ?_
 dsimp only
 refine wpAny_pure ?_
 dsimp only
 refine wpAny_bind (wpAny_listSubscript_int hfit ?_)
 dsimp only
 subst hi
 show wpAny _ _ ((do return (← seqItemAt x j).map (j, ·)) >>= _) _ _ _
 unfold seqItemAt
 refine wpAny_bind (wpAny_bind (wpAny_bind (wpAny_loadPart hx ?_)))
 dsimp only
 have hv' : vs.toArray[j]? = some v := by simpa using hv
 rw [hv']
 refine wpAny_pure (wpAny_pure ?_)
 dsimp only [Option.map]
 exact wpAny_pure ⟨_, rfl, q⟩
theorem zhu {value slice : Expr} {k : Value} {Q : Value → Shared → Prop} (X : (KF w.params).In h) (hx : h.get? x = some (accO dx vs n)) (q : wpAny (M w) A (call (.builtin "list.__getitem__") [.ref x, k]) Q E ⟨h, g, d, tk, os⟩)
  (hs : subscripted slice false (.ref x) k = operate [.ref x, k] (getItem (.ref x) k) := by with_unfolding_all rfl) :
  wpAny (M w) A (subscriptTail value slice (.ref x) k) Q E ⟨h, g, d, tk, os⟩ := by
 unfold subscriptTail
 unfold getitemInPython
 refine wpAny_bind (wpAny_bind (zaa hx X (by ktn_no "k_ev") ?_))
 refine wpAny_pure ?_
 rw [hs]
 refine wpAny_bind (zcq (zce X hx (wpAny_mono q (fun v s' hv => ?_) fun _ _ z => z)))
 exact wpAny_bind (wpAny_letTemporaryGo (wpAny_pure hv))
theorem zbP {M : Model} {s : Shared} {value slice : Expr} {o i : Value} {T id : String} {Q : Value → Shared → Prop} (hT : s.TypeIs o T)
  (hl : typeLookup (.type T) "__getitem__" = pure (some (.builtin id))) (hgo : ∀ r s' (Q : Unit → Shared → Prop), Q () s' → wpAny M A (letTemporaryGo value o r) Q E s') (q : wpAny M A (getItem o i) Q E s)
  (hs : subscripted slice false o i = operate [o, i] (getItem o i) := by with_unfolding_all rfl) :
  wpAny M A (subscriptTail value slice o i) Q E s := by
 unfold subscriptTail
 refine wpAny_bind ?_
 rw [getitemInPython_of_ne hT.not_modules]
 refine wpAny_bind (wpAny_specialOf hT hl ?_)
 have fin : wpAny M A (subscripted slice false o i) (fun r s₃ => wpAny M A (letTemporaryGo value o r >>= fun _ => pure r) Q E s₃) E s := by
  rw [hs]
  exact wpAny_operating (wpAny_mono q (fun r s₃ h₃ => wpAny_bind (hgo _ _ _ (wpAny_pure h₃))) fun _ _ x => x)
 first
  | exact wpAny_pure (wpAny_bind fin)
  | exact wpAny_bind (wpAny_pure (wpAny_bind fin))
  | exact wpAny_bind fin
theorem zbQ {s : Shared} {value slice : Expr} {t : Addr} {l : List Value} {k : Int} {u : Tok} {j : Nat} {v : Value} {Q : Value → Shared → Prop} (ht : IsTup s.heap t l.toArray)
  (hlo : -(2 ^ 63) ≤ k) (hhi : k < 2 ^ 63) (hj : seqIndex? k l.length = some j) (hv : l[j]? = some v) (q : Q v s)
  (hs : subscripted slice false (.ref t) (.int k u) = operate [.ref t, .int k u] (getItem (.ref t) (.int k u)) := by with_unfolding_all rfl) :
  wpAny (M w) A (subscriptTail value slice (.ref t) (.int k u)) Q E s :=
 zbP ht.typeIs slot_tuple_getitem.lookup (fun _ _ _ h => wpAny_letTemporaryGo h) (getItem_tuple ht hlo hhi (by simpa using hj) (by simpa using hv) q) hs
theorem zhn {s : Shared} {value slice : Expr} {y : PySem.Str} {t : Tok} {k : Int} {u : Tok} {c : Nat} {Q : Value → Shared → Prop}
  (hr : (decide (k < -(2 ^ 63 : Int)) || decide (k ≥ 2 ^ 63)) = false) (hc : (seqIndex? k y.length).bind (y.cps[·]?) = some c) (q : ∀ t s', s'.heap = s.heap → s'.gens = s.gens → s'.drawn = s.drawn → s'.os = s.os → Q (.str ⟨#[c]⟩ t) s')
  (hs : subscripted slice false (.str y t) (.int k u) = operate [.str y t, .int k u] (getItem (.str y t) (.int k u)) := by with_unfolding_all rfl) :
  wpAny (M w) A (subscriptTail value slice (.str y t) (.int k u)) Q E s :=
 zbP (typeIs_str _ _ _) slot_str_getitem.lookup (fun _ _ _ h => wpAny_letTemporaryGo h) (getItem_str hr hc (q _ _ rfl rfl rfl rfl)) hs
theorem zbe {h : Heap} {q : Addr} {vs : List Value} (e : h.get? q = some (tupO vs)) : IsTup h q vs.toArray := ⟨_, e, rfl, 0, rfl⟩
end
section
variable {w : World} {B : Heap} {L : Addr} {m : PySem.Str → Option Value} {cl : List (PySem.Str × Addr)} {cm : PySem.Str → Option Value} {news : List (Addr × Obj)} {s₀ : Shared} {A : Around} {E : Value → Shared → Prop} {h : Heap} {g : Array GenState} {d d₀ : Drawn} {tk tk₀ : Nat} {os : OsState} {env : Env}
theorem zao {x1 x2 : PySem.Str} {p1 p2 pos : Pos} {k : Nat} {q : Addr} {v1 v2 : Value} {Q : Unit → Shared → Prop} (F : Fm w B L cl s₀ m cm news ⟨h, g, d₀, tk₀, os⟩) (hh : A.handled = none) (ht : h.get? q = some (tupO [v1, v2]))
  (hk : env.scope.kind = .function) (hx1 : env.kindOf x1 = some .local) (hx2 : env.kindOf x2 = some .local) (hL : env.locals = L)
  (hq : ∀ h' tk', Fm w B L cl s₀ (upd (upd m x1 v1) x2 v2) cm news ⟨h', g, d, tk', os⟩ → Q () ⟨h', g, d, tk', os⟩) : wpAny (M w) A (assign (.Tuple [.Name x1 p1, .Name x2 p2] k pos) env (.ref q)) Q E ⟨h, g, d, tk, os⟩ := by
 refine assign_Tuple_tuple hh (zbe ht) rfl rfl fun h₁ he => ?_
 refine assignInOrder_cons (wpAny_assign_Name (st_L (F.keepAll (d := d) (tk := tk) (zbN he)) hk hx1 hL fun h₂ F₂ => ?_))
 refine assignInOrder_cons (wpAny_assign_Name (st_L F₂ hk hx2 hL fun h₃ F₃ => ?_))
 exact assignInOrder_nil (hq _ _ F₃)
end
noncomputable abbrev e0 : PySem.Str := Str.ofString ""
structure Opq (Q Qo : Flow → Shared → Prop) : Prop where
 to : ∀ f s, Q f s → Qo f s
theorem useQ {Q Qo : Flow → Shared → Prop} (O : Opq Q Qo) {f : Flow} {s : Shared} (h : Q f s) : Qo f s := O.to f s h
theorem wForO {w : World} {A : Around} {target : Expr} {iter : Expr} {body orelse : List Stmt} {pos : Pos} {env : Env} {Q : Flow → Shared → Prop} {s : Shared}
  (h : ∀ Qo, Opq Q Qo → wpAny (M w) A (eval iter env) (fun xv s₁ => wpAny (M w) A (pyIter xv) (fun it s₂ => LoopC w A target it body orelse env Qo s₂) NoE s₁) NoE s)
  (hs : ∀ x, foldedSetIterable iter env x = pure x) : wpAny (M w) A (exec (.For target iter body orelse pos) env) Q NoE s :=
 wFor (h Q ⟨fun _ _ x => x⟩) hs
local macro_rules | `(tactic| ktn_no "x1") => `(tactic| (with_reducible refine useQ (by assumption) ?_))
noncomputable def Word (c : Nat) (y : PySem.Str × PySem.Str) : Prop := y.1 = e0 ∧ (∃ l : Array Nat, y.2.cps = l.push c) ∧ y.2.length ≤ 5000
noncomputable def chunk (mx : Int) (st : List PySem.Str × List (PySem.Str × PySem.Str)) (v : PySem.Str) : List PySem.Str × List (PySem.Str × PySem.Str) :=
 if accLen 0 (st.2 ++ [(e0, v)]) > mx ∧ st.2.isEmpty = false then (st.1 ++ [accStr st.2], [(e0, v)]) else (st.1, st.2 ++ [(e0, v)])
theorem zdz (k : Nat) : Builtin.Range.rangeSize (k : Int) 0 (-1) = k := by
 unfold Builtin.Range.rangeSize
 rw [if_neg (by decide)]
 by_cases h : (k : Int) > 0
 ·rw [if_pos h]; simp only [Int.neg_neg, Int.ediv_one]; ktn_no "o4"
 ·rw [if_neg h]; ktn_no "o4"
theorem zff (k : Nat) (hk : k ≤ 1000) : Builtin.Range.small (k : Int) 0 (-1) = true := by
 unfold Builtin.Range.small
 simp only [zdz]
 have f : ∀ z : Int, -2000 ≤ z → z ≤ 2000 → Builtin.Range.rangeFitsLong z = true := fun z h1 h2 => by
  unfold Builtin.Range.rangeFitsLong
  simp only [Bool.and_eq_true, decide_eq_true_eq]
  exact ⟨Int.le_trans (by decide) h1, Int.lt_of_le_of_lt h2 (by decide)⟩
 simp only [f k (by ktn_no "om") (by ktn_no "om"), f 0 (by ktn_no "om") (by ktn_no "om"), f (-1) (by ktn_no "om") (by ktn_no "om"), f (0 + (-1 + 1)) (by ktn_no "om") (by ktn_no "om"), f (0 + (-1 - 1)) (by ktn_no "om") (by ktn_no "om")]
 simp
theorem Word.b1 {c : Nat} {y : PySem.Str × PySem.Str} (h : Word c y) : y.1.length ≤ 1000000 ∧ y.2.length ≤ 1000000 := ⟨by rw [h.1]; decide, Nat.le_trans h.2.2 (by decide)⟩
theorem Word.b2 {c : Nat} {y : PySem.Str × PySem.Str} (h : Word c y) : y.1.length ≤ 5000 ∧ y.2.length ≤ 5000 := ⟨by rw [h.1]; decide, h.2.2⟩
theorem zbO {c : Nat} : ∀ {its : List (PySem.Str × PySem.Str)}, (∀ y ∈ its, Word c y) → 0 ≤ accLen 0 its ∧ accLen 0 its ≤ 5000 * its.length
 | [], _ => by simp [accLen]
 | y :: r, h => by
  have := zbO (its := r) fun z hz => h z (.tail _ hz)
  have hy := h y (.head _)
  have h1 : y.1.length = 0 := by rw [hy.1]; decide
  have h2 := hy.2.2
  simp only [accLen, List.map_cons, List.sum_cons, List.length_cons] at this ⊢
  rw [h1]
  push_cast
  ktn_no "o4"
section
variable {w : World} {B : Heap} {L : Addr} {m : PySem.Str → Option Value} {cl : List (PySem.Str × Addr)} {cm : PySem.Str → Option Value} {own rest news : List (Addr × Obj)} {s₀ : Shared} {A : Around} {E : Value → Shared → Prop} {x : Addr} {its : List (PySem.Str × PySem.Str)} {init : Int} {h : Heap} {g g₀ : Array GenState} {d d₀ : Drawn} {tk tk₀ : Nat} {os os₀ : OsState}
theorem zac {Q : Value × List Value → Shared → Prop} {pl : Sem Bool} {name : PySem.Str} {f tf : Value} (F : Fm w B L cl s₀ m cm (own ++ rest) ⟨h, g₀, d₀, tk₀, os₀⟩) (P : AccP x its init own)
  (hf : findIn (KF w.params) (.ref a_Acc) name = some (some f)) (ht : typeIn (KF w.params) f = some tf) (ht2 : (tf != .type "function" && tf != .type "method_descriptor" && tf != .type "wrapper_descriptor") = false) (hl : decide (name = "_initial_size") = false)
  (q : Q (f, [.ref x]) ⟨h, g, d, tk, os⟩) : wpAny (M w) A (getMethod (.ref x) name pl) Q E ⟨h, g, d, tk, os⟩ := by
 obtain ⟨dx, nn, k, vs, la, esa, ta, rfl, hEa, hT⟩ := P
 exact za9 F.K (F.at 0 rfl) (F.at 1 rfl) hEa hf ht ht2 (by simp only [accM, upd]; rw [if_neg (of_decide_eq_false hl)]) q
theorem zhG {Q : Value → Shared → Prop} {ex : Bool} (F : Fm w B L cl s₀ m cm (own ++ rest) ⟨h, g₀, d₀, tk₀, os₀⟩) (P : AccP x its init own)
  (q : ∀ t, Q (.int init t) ⟨h, g, d, tk + 1, os⟩) : wpAny (M w) A (getAttr (.ref x) "_initial_size" ex) Q E ⟨h, g, d, tk, os⟩ := by
 obtain ⟨dx, nn, k, vs, la, esa, ta, rfl, hEa, hT⟩ := P
 exact zej F.K (F.at 0 rfl) (F.at 1 rfl) hEa (by simp [accM, upd]) rfl (q ta)
theorem zf0 {value slice : Expr} {Q : Value → Shared → Prop} {i : Int} {j : Nat} {ti : Tok} {f p : PySem.Str} (F : Fm w B L cl s₀ m cm news ⟨h, g₀, d₀, tk₀, os₀⟩) (P : AccP x its init own) (hi : i = j) (hj : j < 1000) (hy : its[j]? = some (f, p)) (hm : ∀ p ∈ own, p ∈ news)
  (q : ∀ q t1 t2, h.get? q = some (tupO [.str f t1, .str p t2]) → Q (.ref q) ⟨h, g, d, tk, os⟩)
  (hs : subscripted slice false (.ref x) (.int i ti) = operate [.ref x, .int i ti] (getItem (.ref x) (.int i ti)) := by with_unfolding_all rfl) : wpAny (M w) A (subscriptTail value slice (.ref x) (.int i ti)) Q E ⟨h, g, d, tk, os⟩ := by
 obtain ⟨dx, nn, k, vs, la, esa, ta, rfl, hEa, hT⟩ := P
 obtain ⟨y, t1, t2, hvq, hmq⟩ := hT.get hy
 have hx := (F.nw _ (hm _ (.head _))).1
 exact zhu F.K hx (zfB F.K hx hi hj hvq (q _ _ _ (F.nw _ (hm _ (.tail _ (.tail _ hmq)))).1)) hs
end
section
variable {w : World} {B : Heap} {L : Addr} {m : PySem.Str → Option Value} {cl : List (PySem.Str × Addr)} {cm : PySem.Str → Option Value} {own rest news : List (Addr × Obj)} {s₀ s : Shared} {A : Around} {E : Value → Shared → Prop} {Q : Value → Shared → Prop} {n : Nat} {x : Addr} {its : List (PySem.Str × PySem.Str)} {lines : List PySem.Str} {mx : Int} {c : Nat}
theorem zfT {h : Heap} {g : Array GenState} {d : Drawn} {tk : Nat} {os : OsState} {value slice : Expr} {y : PySem.Str} {t : Tok} {k : Int} {u : Tok} {c : Nat} {E : Value → Shared → Prop}
  (hr : (decide (k < -(2 ^ 63 : Int)) || decide (k ≥ 2 ^ 63)) = false) (hc : (seqIndex? k y.length).bind (y.cps[·]?) = some c) (q : ∀ t tk', Q (.str ⟨#[c]⟩ t) ⟨h, g, d, tk', os⟩)
  (hs : subscripted slice false (.str y t) (.int k u) = operate [.str y t, .int k u] (getItem (.str y t) (.int k u)) := by with_unfolding_all rfl) :
  wpAny (M w) A (subscriptTail value slice (.str y t) (.int k u)) Q E ⟨h, g, d, tk, os⟩ :=
 zhn hr hc (fun _ s' a b c d => by cases s'; cases a; cases b; cases c; cases d; exact q _ _) hs
theorem zbw {v : PySem.Str} {t1 t2 : Tok} (R : Room (n + 40) A) (F : Fm w B L cl s₀ m cm (own ++ rest) s) (P : VfP x mx ⟨#[c]⟩ lines its own) (hc : c < 128) (hsp : Txt.isspace ⟨#[c]⟩ = false) (hw : ∀ y ∈ its, Word c y) (hv : Word c (e0, v)) (hz : its.length ≤ 100) (hl : lines.length ≤ 800)
  (h : ∀ own' s', VfP x mx ⟨#[c]⟩ (chunk mx (lines, its) v).1 (chunk mx (lines, its) v).2 own' → Fm w B L cl s₀ m cm (own' ++ rest) s' → Q .none s') :
  wpAny (M w) A (call (.ref a_VF_append_chunk) [.ref x, .str e0 t1, .str v t2] []) Q E s := by
 refine zam (binds := [("self", .ref x), ("fws", .str e0 t1), ("string", .str v t2)]) (fd := fd_VF_append_chunk) (cmF := fun _ => none) R F (zbm _) (zbo _) rfl (BindsTo.of_eq rfl) (by decide) (by kernel_rfl) (fun _ _ e => (by cases e)) (fun _ _ _ e => (by cases e)) ?_ rfl rfl rfl
 obtain ⟨dv, kd, es, u1, u2, u3, u4, ll, ac, l, nl, oa, rfl, hE, hl1, hP⟩ := P
 intro Qo hQo L' s₁ hL F₁ R₁
 obtain ⟨h₁, g₁, d₁, k₁, o₁⟩ := s₁
 ktn_no "ast"
 ktn_no "x"
 refine vf_get F₁.K (F₁.at 0 rfl) (F₁.at 1 rfl) hE (by ktn_no "k_val") (by kernel_rfl) (by ktn_no "k_ev") ?_
 ktn_no "x"
 have F₂ := F₁.perm (news' := oa ++ ((x, vfO dv) :: (dv, dictOf es kd) :: (ll, lsO (strValues l) nl) :: rest)) (by ktn_no "perm_tac")
 refine zac F₂ hP (by ktn_no "k_ev") (by ktn_no "k_ev") (by decide +kernel) (by decide +kernel) ?_
 ktn_no "x"
 refine zbl (n := n + 30) (R₁.less (by ktn_no "le")) (F₂.toks _) hP (by ktn_no "om") fun oa₃ s' P₃ F₃ => ?_
 obtain ⟨h₃, g₃, d₃, k₃, o₃⟩ := s'
 clear F₁ F₂ hP
 have hw2 : ∀ y ∈ its ++ [(e0, v)], Word c y := fun y hy => by
  rcases List.mem_append.mp hy with hy | hy
  ·exact hw y hy
  ·rw [List.mem_singleton.mp hy]; exact hv
 have F₄ := F₃.perm (news' := (x, vfO dv) :: (dv, dictOf es kd) :: (ll, lsO (strValues l) nl) :: (oa₃ ++ rest)) (by ktn_no "perm_tac")
 have hb := zbO hw2
 simp only [List.length_append, List.length_singleton] at hb
 ktn_no "x"
 refine vf_get F₄.K (F₄.at 0 rfl) (F₄.at 1 rfl) hE (by ktn_no "k_val") (by kernel_rfl) (by ktn_no "k_ev") ?_
 ktn_no "x"
 refine zeI (n := n + 10) (R₁.less (by ktn_no "le")) (F₃.toks _) P₃ (fun y hy => (hw2 y hy).b1) hb.1 (Int.lt_of_le_of_lt hb.2 (Int.lt_of_le_of_lt (Int.mul_le_mul_of_nonneg_left (Int.ofNat_le.mpr (Nat.succ_le_succ hz)) (by decide)) (by decide))) fun t₅ s' F₅ => ?_
 obtain ⟨h₅, g₅, d₅, k₅, o₅⟩ := s'
 clear F₃ F₄
 have F₆ := F₅.perm (news' := (x, vfO dv) :: (dv, dictOf es kd) :: (ll, lsO (strValues l) nl) :: (oa₃ ++ rest)) (by ktn_no "perm_tac")
 ktn_no "x"
 refine vf_get F₆.K (F₆.at 0 rfl) (F₆.at 1 rfl) hE (by ktn_no "k_val") (by kernel_rfl) (by ktn_no "k_ev") ?_
 ktn_no "x"
 by_cases hgt : mx < accLen 0 (its ++ [(e0, v)])
 case neg =>
  (ktn_no "iN"; exact (by simpa using hgt))
  ktn_no "x"
  have e : chunk mx (lines, its) v = (lines, its ++ [(e0, v)]) := if_neg (fun z => hgt z.1)
  refine hQo _ _ <| Back.of (F₆.toks _) fun G => ?_
  refine h ((x, vfO dv) :: (dv, dictOf es kd) :: (ll, lsO (strValues l) nl) :: oa₃) _ ⟨_, _, _, _, _, _, _, _, _, _, _, _, rfl, hE, ?_, ?_⟩ G
  ·rw [e]; exact hl1
  ·rw [e]; exact P₃
 (ktn_no "iP"; exact (by simpa using hgt))
 refine wpAny_execs_cons (wForO (fun Qf₁ hQf₁ => ?_) (fun x => rfl))
 ktn_no "x"
 refine vf_get F₆.K (F₆.at 0 rfl) (F₆.at 1 rfl) hE (by ktn_no "k_val") (by kernel_rfl) (by ktn_no "k_ev") ?_
 refine wpAny_pyIter_strU ?_
 have hty : strIterType ⟨#[c]⟩ = "str_ascii_iterator" := by simp [strIterType, hc]
 rw [hty]
 have F₇ := F₆.push1 (d := d₅) (tk := k₅ + 1) ⟨.type "str_ascii_iterator", none, .fields #[.str ⟨#[c]⟩ u4, .int (0 : Nat) 0], #[]⟩
 have S := zgr (w := w) h₅.objs.size ⟨#[c]⟩ u4
 refine zab ?_
 refine Fm.nextI F₇ S (i := 0) Nat.zero_lt_one ⟨rfl, rfl⟩ trivial fun v₈ h₈ k₈ o₈' hv₈ hob₈ F₈ => ?_
 (refine x2_2 (hv₈) ?_; try clear hv₈; intro c' tc hcc eqX3; subst eqX3)
 have hcc : c = c' := by simpa using hcc
 subst hcc
 dsimp only
 refine wpAny_pure (wpAny_assign_Name ?_)
 refine st_L F₈ (by kernel_rfl) (by kernel_rfl!) (by kernel_rfl) fun h₉ F₉ => ?_
 clear F₅ F₆ F₇ F₈
 refine wpAny_execs_cons (wForO (fun Qf₂ hQf₂ => ?_) (fun x => rfl))
 have G₁ := F₉.perm (news' := (x, vfO dv) :: (dv, dictOf es kd) :: (ll, lsO (strValues l) nl) :: (oa₃ ++ ((h₅.objs.size, o₈') :: rest))) (by ktn_no "perm_tac")
 have G₂ := F₉.perm (news' := oa₃ ++ ((x, vfO dv) :: (dv, dictOf es kd) :: (ll, lsO (strValues l) nl) :: (h₅.objs.size, o₈') :: rest)) (by ktn_no "perm_tac")
 ktn_no "x"
 refine vf_get G₁.K (G₁.at 0 rfl) (G₁.at 1 rfl) hE (by ktn_no "k_val") (by kernel_rfl) (by ktn_no "k_ev") ?_
 ktn_no "x"
 refine zac G₂ P₃ (by ktn_no "k_ev") (by ktn_no "k_ev") (by decide +kernel) (by decide +kernel) ?_
 ktn_no "x"
 refine zaV (n := n + 30) (R₁.less (by ktn_no "le")) (G₂.toks _) P₃ fun t₁₀ s' F₁₀ => ?_
 obtain ⟨h₁₀, g₁₀, d₁₀, k₁₀, o₁₀⟩ := s'
 clear G₁ G₂
 ktn_no "x"
 have ek : (((its ++ [(e0, v)]).length : Nat) : Int) - 1 = (its.length : Int) := by simp
 rw [ek]
 refine call_range_3 (by decide) ?_ (.inl (PyProof.noPylong_small (by ktn_no "om")))
 have F₁₁ := F₁₀.push1 (d := d₁₀) (tk := k₁₀ + 1 + 1 + 1 + 1 + 1) ⟨.type "range", none, .fields #[.int (its.length : Int) (k₁₀ + 1), .int 0 (k₁₀ + 1 + 1), .int (-1) (k₁₀ + 1 + 1 + 1 + 1)], #[]⟩
 refine wpAny_pyIter_range (F₁₁.at 0 rfl) (zff _ (by ktn_no "om")) ?_
 rw [zdz]
 have F₁₂ := F₁₁.push1 (d := d₁₀) (tk := k₁₀ + 1 + 1 + 1 + 1 + 1) ⟨.type "range_iterator", none, .fields #[rawInt ((its.length : Int) + (0 : Nat) * (-1)), rawInt ((its.length : Int) - (0 : Nat)), rawInt (-1)], #[]⟩
 rw [show (rawInt (its.length : Int)) = rawInt ((its.length : Int) + (0 : Nat) * (-1)) by simp]
 have SI := zaf (w := w) (h₁₀.push ⟨.type "range", none, .fields #[.int (its.length : Int) (k₁₀ + 1), .int 0 (k₁₀ + 1 + 1), .int (-1) (k₁₀ + 1 + 1 + 1 + 1)], #[]⟩).objs.size (its.length : Int) (-1) its.length
 dsimp only
 refine zab ?_
 rcases Nat.eq_zero_or_pos its.length with hlen | hlen
 case inl =>
  have hnil : its = [] := List.length_eq_zero_iff.mp hlen
  rw [hnil] at P₃
  clear hw2 hb hv hz hl hc hsp ek
  refine Fm.endI F₁₂ SI R₁.handled (i := 0) hlen.symm rfl trivial fun h₁₃ k₁₃ F₁₃ => ?_
  clear F₁₀ F₁₁ F₁₂
  ktn_no "x"
  refine zab ?_
  have F₁₄ := F₁₃.perm (news' := (h₅.objs.size, o₈') :: (h₁₀.objs.size, ⟨.type "range", none, .fields #[.int (its.length : Int) (k₁₀ + 1), .int 0 (k₁₀ + 1 + 1), .int (-1) (k₁₀ + 1 + 1 + 1 + 1)], #[]⟩) :: (x, vfO dv) :: (dv, dictOf es kd) :: (ll, lsO (strValues l) nl) :: (oa₃ ++ rest)) (by ktn_no "perm_tac")
  refine Fm.endI F₁₄ S R₁.handled (i := 1) rfl hob₈ trivial fun h₁₅ k₁₅ F₁₅ => ?_
  have F₁₆ := F₁₅.drop 1
  dsimp only [List.drop] at F₁₆
  clear F₁₃ F₁₄ F₁₅
  ktn_no "x"
  refine Assign_Tuple ?_ rfl rfl
  ktn_no "x"
  refine vf_get F₁₆.K (F₁₆.at 0 rfl) (F₁₆.at 1 rfl) hE (by ktn_no "k_val") (by kernel_rfl) (by ktn_no "k_ev") ?_
  ktn_no "x"
  have G₂ := F₁₆.perm (news' := oa₃ ++ ((x, vfO dv) :: (dv, dictOf es kd) :: (ll, lsO (strValues l) nl) :: rest)) (by ktn_no "perm_tac")
  refine zac G₂ P₃ (by ktn_no "k_ev") (by ktn_no "k_ev") (by decide +kernel) (by decide +kernel) ?_
  ktn_no "x"
  refine zbn (n := n + 20) (R₁.less (by ktn_no "le")) (G₂.toks _) P₃ (by simp) fun oa₄ q tq1 tq2 s' P₄ F₁₇ => ?_
  obtain ⟨h₁₇, g₁₇, d₁₇, k₁₇, o₁₇⟩ := s'
  clear F₁₆ G₂
  refine zao F₁₇ R₁.handled (F₁₇.at 0 rfl) rfl (by kernel_rfl) (by kernel_rfl) (by kernel_rfl) fun h₁₈ k₁₈ F₁₈ => ?_
  clear F₁₇
  have F₁₉ := (F₁₈.drop 1).perm (news' := (x, vfO dv) :: (dv, dictOf es kd) :: (ll, lsO (strValues l) nl) :: (oa₄ ++ rest)) (by simp only [List.cons_append, List.drop]; ktn_no "perm_tac")
  ktn_no "x"
  refine vf_get F₁₉.K (F₁₉.at 0 rfl) (F₁₉.at 1 rfl) hE (by ktn_no "k_val") (by kernel_rfl) (by ktn_no "k_ev") ?_
  ktn_no "x"
  have G₃ := F₁₉.perm (news' := oa₄ ++ ((x, vfO dv) :: (dv, dictOf es kd) :: (ll, lsO (strValues l) nl) :: rest)) (by ktn_no "perm_tac")
  refine zhG G₃ P₄ fun ti => ?_
  ktn_no "x"
  (ktn_no "iN"; exact (by decide))
  ktn_no "x"
  refine vf_get F₁₉.K (F₁₉.at 0 rfl) (F₁₉.at 1 rfl) hE (by ktn_no "k_val") (by kernel_rfl) (by ktn_no "k_ev") ?_
  ktn_no "x"
  refine zac G₃ P₄ (by ktn_no "k_ev") (by ktn_no "k_ev") (by decide +kernel) (by decide +kernel) ?_
  ktn_no "x"
  refine zbl (n := n + 20) (R₁.less (by ktn_no "le")) (G₃.toks _) P₄ (by simp) fun oa₅ s' P₅ F₂₀ => ?_
  obtain ⟨h₂₀, g₂₀, d₂₀, k₂₀, o₂₀⟩ := s'
  ktn_no "x"
  have e : chunk mx (lines, its) v = (lines, [(e0, v)]) := by rw [hnil]; exact if_neg (fun z => by cases z.2)
  refine hQo _ _ <| Back.of (Fm.toks (F₂₀.perm (news' := ((x, vfO dv) :: (dv, dictOf es kd) :: (ll, lsO (strValues l) nl) :: oa₅) ++ rest) (by ktn_no "perm_tac")) _) fun G => ?_
  refine h ((x, vfO dv) :: (dv, dictOf es kd) :: (ll, lsO (strValues l) nl) :: oa₅) _ ⟨_, _, _, _, _, _, _, _, _, _, _, _, rfl, hE, ?_, ?_⟩ G
  ·rw [e]; exact hl1
  ·rw [e]; exact P₅
 case inr =>
  refine Fm.nextI F₁₂ SI (i := 0) hlen rfl trivial fun v₁₃ h₁₃ k₁₃ o₁₃' hv₁₃ hob₁₃ F₁₃ => ?_
  obtain ⟨ti, rfl⟩ := hv₁₃
  rw [show (its.length : Int) + ((0 : Nat) : Int) * -1 = (its.length : Int) by simp]
  clear F₁₀ F₁₁ F₁₂
  dsimp only
  refine wpAny_pure (wpAny_assign_Name ?_)
  refine st_L F₁₃ (by kernel_rfl) (by kernel_rfl!) (by kernel_rfl) fun h₁₄ F₁₄ => ?_
  ktn_no "x"
  refine GM.isspace ?_
  ktn_no "x"
  refine SC.isspace ?_
  ktn_no "x"
  rw [hsp, if_neg (by decide)]
  ktn_no "x"
  have G₁ := F₁₄.perm (news' := (x, vfO dv) :: (dv, dictOf es kd) :: (ll, lsO (strValues l) nl) :: (oa₃ ++ ((h₁₀.objs.size + 1, o₁₃') :: (h₁₀.objs.size, ⟨.type "range", none, .fields #[.int (its.length : Int) (k₁₀ + 1), .int 0 (k₁₀ + 1 + 1), .int (-1) (k₁₀ + 1 + 1 + 1 + 1)], #[]⟩) :: (h₅.objs.size, o₈') :: rest))) (by rw [Heap.size_push]; ktn_no "perm_tac")
  refine Subscript_ (Subscript_ ?_)
  ktn_no "x"
  refine vf_get G₁.K (G₁.at 0 rfl) (G₁.at 1 rfl) hE (by ktn_no "k_val") (by kernel_rfl) (by ktn_no "k_ev") ?_
  ktn_no "x"
  obtain ⟨y, hy⟩ : ∃ y, (its ++ [(e0, v)])[its.length - 1]? = some y := ⟨_, List.getElem?_eq_getElem (by simp; exact Nat.lt_of_le_of_lt (Nat.sub_le _ _) (Nat.lt_succ_self _))⟩
  have hym := List.mem_of_getElem? hy
  obtain ⟨yf, yp⟩ := y
  refine zf0 F₁₄ P₃ (j := its.length - 1) (Int.ofNat_sub hlen).symm (Nat.lt_of_le_of_lt (Nat.sub_le _ _) (Nat.lt_of_le_of_lt hz (by decide))) hy (fun p hp => by simp only [List.mem_cons, List.mem_append]; exact .inr (.inr (.inl hp))) fun q tq1 tq2 hq => ?_
  ktn_no "x"
  refine zbQ (zbe hq) (by decide) (by decide) (j := 1) rfl rfl ?_
  refine st_L F₁₄ (by kernel_rfl) (by kernel_rfl!) (by kernel_rfl) fun h₁₅ F₁₅ => ?_
  ktn_no "x"
  obtain ⟨hy1, ⟨ly, hy2⟩, hy3⟩ := hw2 _ hym
  dsimp only at hy2 hy3
  have hyl : yp.length = ly.size + 1 := by show yp.cps.size = _; rw [hy2]; simp
  refine PySem.P.truthy_str (by ktn_no "om") ?_
  (ktn_no "iP"; exact (by rw [hyl]; simp; ktn_no "o4"))
  ktn_no "x"
  refine Subscript_ ?_
  ktn_no "x"
  refine zfT (c := c) rfl ?_ fun ts k₁₆ => ?_
  ·rw [hyl, zez]
   simp [hy2]
  ktn_no "x"
  refine eq_str ?_
  ktn_no "x"
  (ktn_no "iP"; exact (by simp))
  ktn_no "x"
  (ktn_no "iP"; exact rfl)
  ktn_no "x"
  have F₁₆ := (F₁₅.perm (news' := (h₁₀.objs.size + 1, o₁₃') :: (h₁₀.objs.size, ⟨.type "range", none, .fields #[.int (its.length : Int) (k₁₀ + 1), .int 0 (k₁₀ + 1 + 1), .int (-1) (k₁₀ + 1 + 1 + 1 + 1)], #[]⟩) :: (h₅.objs.size, o₈') :: (x, vfO dv) :: (dv, dictOf es kd) :: (ll, lsO (strValues l) nl) :: (oa₃ ++ rest)) (by rw [Heap.size_push]; ktn_no "perm_tac")).drop 3
  dsimp only [List.drop] at F₁₆
  clear F₁₄ F₁₅ G₁
  refine vf_get F₁₆.K (F₁₆.at 0 rfl) (F₁₆.at 1 rfl) hE (by ktn_no "k_val") (by kernel_rfl) (by ktn_no "k_ev") ?_
  ktn_no "x"
  have G₂ := F₁₆.perm (news' := oa₃ ++ ((x, vfO dv) :: (dv, dictOf es kd) :: (ll, lsO (strValues l) nl) :: rest)) (by ktn_no "perm_tac")
  refine zac G₂ P₃ (by ktn_no "k_ev") (by ktn_no "k_ev") (by decide +kernel) (by decide +kernel) ?_
  ktn_no "x"
  refine zcI (n := n + 20) (i := its.length) (R₁.less (by ktn_no "le")) (G₂.toks _) P₃ (by simp; ktn_no "o4") (by simp) fun own1 own2 yl s' P₅ P₆ F₁₇ => ?_
  obtain ⟨h₁₇, g₁₇, d₁₇, k₁₇, o₁₇⟩ := s'
  clear F₁₆ G₂
  rw [show (its ++ [(e0, v)]).take its.length = its by simp] at P₅
  rw [show (its ++ [(e0, v)]).drop its.length = [(e0, v)] by simp] at P₆
  refine st_L F₁₇ (by kernel_rfl) (by kernel_rfl!) (by kernel_rfl) fun h₁₈ F₁₈ => ?_
  clear F₁₇
  have G₁ := F₁₈.perm (news' := (x, vfO dv) :: (dv, dictOf es kd) :: (ll, lsO (strValues l) nl) :: (own1 ++ (own2 ++ rest))) (by ktn_no "perm_tac")
  ktn_no "x"
  refine vf_get G₁.K (G₁.at 0 rfl) (G₁.at 1 rfl) hE (by ktn_no "k_val") (by kernel_rfl) (by ktn_no "k_ev") ?_
  ktn_no "x"
  refine Calls.getMethod_list_append (G₁.at 2 rfl) rfl rfl ?_
  ktn_no "x"
  refine vf_get G₁.K (G₁.at 0 rfl) (G₁.at 1 rfl) hE (by ktn_no "k_val") (by kernel_rfl) (by ktn_no "k_ev") ?_
  ktn_no "x"
  have G₂ := F₁₈.perm (news' := own1 ++ (own2 ++ ((x, vfO dv) :: (dv, dictOf es kd) :: (ll, lsO (strValues l) nl) :: rest))) (by ktn_no "perm_tac")
  refine zcW (n := n + 10) (R₁.less (by ktn_no "le")) (G₂.toks _) P₅ (by ktn_no "om") (fun y hy => (hw y hy).b2) fun t₁₉ s' F₁₉ => ?_
  obtain ⟨h₁₉, g₁₉, d₁₉, k₁₉, o₁₉⟩ := s'
  clear F₁₈ G₁ G₂
  have G₁ := F₁₉.perm (news' := (x, vfO dv) :: (dv, dictOf es kd) :: (ll, lsO (strValues l) nl) :: (own1 ++ (own2 ++ rest))) (by ktn_no "perm_tac")
  ktn_no "x"
  have hll : l.length = lines.length := by rw [← hl1]; simp
  refine append_at (G₁.at 2 rfl) (fun h₂₀ hs₂₀ hx₂₀ => ?_) (by have : (1000 : Nat) ≤ sizeLine := by decide
                                                               simp [strValues]; ktn_no "o4")
  have F₂₀ := G₁.set1 (i := 2) (d := d₁₉) (tk := k₁₉) rfl hs₂₀ hx₂₀
  dsimp only [List.set] at F₂₀
  clear F₁₉ G₁
  ktn_no "x"
  refine vf_get F₂₀.K (F₂₀.at 0 rfl) (F₂₀.at 1 rfl) hE (by ktn_no "k_val") (by kernel_rfl) (by ktn_no "k_ev") ?_
  ktn_no "x"
  have G₂ := F₂₀.perm (news' := own1 ++ (own2 ++ ((x, vfO dv) :: (dv, dictOf es kd) :: (ll, ⟨.type "list", none, .seq ((strValues l).toArray.push (.str (accStr its) t₁₉)) (nl + 1), #[]⟩) :: rest))) (by ktn_no "perm_tac")
  refine zac G₂ P₅ (by ktn_no "k_ev") (by ktn_no "k_ev") (by decide +kernel) (by decide +kernel) ?_
  ktn_no "x"
  refine zfi (n := n + 20) (R₁.less (by ktn_no "le")) (G₂.toks _) P₅ P₆ (by ktn_no "om") (by simp) fun own3 s' P₇ F₂₁ => ?_
  obtain ⟨h₂₁, g₂₁, d₂₁, k₂₁, o₂₁⟩ := s'
  ktn_no "x"
  have e : chunk mx (lines, its) v = (lines ++ [accStr its], [(e0, v)]) := if_pos ⟨hgt, by cases its with | nil => simp at hlen | cons => rfl⟩
  have e5 : (strValues l).toArray.push (.str (accStr its) t₁₉) = (strValues (l ++ [(accStr its, t₁₉)])).toArray := by simp [strValues]
  rw [e5] at F₂₁
  refine hQo _ _ <| Back.of (F₂₁.perm (news' := ((x, vfO dv) :: (dv, dictOf es kd) :: (ll, ⟨.type "list", none, .seq (strValues (l ++ [(accStr its, t₁₉)])).toArray (nl + 1), #[]⟩) :: own3) ++ rest) (by ktn_no "perm_tac")) fun G => ?_
  refine h ((x, vfO dv) :: (dv, dictOf es kd) :: (ll, lsO (strValues (l ++ [(accStr its, t₁₉)])) (nl + 1)) :: own3) _ ⟨_, _, _, _, _, _, _, _, _, _, _, _, rfl, hE, ?_, ?_⟩ G
  ·rw [e]; simp [hl1]
  ·rw [e]; exact P₇
end
section
variable {w : World} {B : Heap} {L : Addr} {m : PySem.Str → Option Value} {cl : List (PySem.Str × Addr)} {cm : PySem.Str → Option Value} {own rest news : List (Addr × Obj)} {s₀ : Shared} {A : Around} {E : Value → Shared → Prop} {h : Heap} {g : Array GenState} {d d₀ : Drawn} {tk tk₀ : Nat} {os : OsState}
theorem zhz {q : Addr} {vs : List Value} {Q : List Value → Shared → Prop} (F : Fm w B L cl s₀ m cm news ⟨h, g, d₀, tk₀, os⟩) (ht : h.get? q = some (tupO vs)) (hz : vs.length ≤ 1000)
  (hq : ∀ h', Fm w B L cl s₀ m cm news ⟨h', g, d, tk, os⟩ → Q vs ⟨h', g, d, tk, os⟩) : StarOf (M w) A E (.ref q) Q ⟨h, g, d, tk, os⟩ := by
 have hT : Shared.TypeIs ⟨h, g, d, tk, os⟩ (.ref q) "tuple" := ⟨_, ht, rfl⟩
 unfold StarOf notIterableAtAll
 refine wpAny_bind (wpAny_specialOf hT PySem.F.slot_tuple_iter.lookup (wpAny_pure ⟨rfl, ?_⟩))
 refine wpAny_collect_seq q (.inr rfl) ht rfl rfl (fun h' hk => ?_) (Nat.le_trans (by simpa using hz) (show (1000 : Nat) ≤ sizeLine by decide))
 simpa using hq h' (F.keepAll hk)
theorem ne_tup2 {a b : Addr} {x1 x2 y1 y2 : PySem.Str} {t1 t2 u1 u2 : Tok} {Q : Value → Shared → Prop} (hA : A.units < cLine) (ha : h.get? a = some (tupO [.str x1 t1, .str x2 t2])) (hb : h.get? b = some (tupO [.str y1 u1, .str y2 u2]))
  (q : Q (.bool (!((x1 == y1) && (x2 == y2)))) ⟨h, g, d, tk, os⟩) : wpAny (M w) A (compareOp .NotEq (.ref a) (.ref b)) Q E ⟨h, g, d, tk, os⟩ := by
 refine SeqAt.RcNeAt.tuples (items := #[.str x1 t1, .str x2 t2]) (items2 := #[.str y1 u1, .str y2 u2]) (e := fun j => if j = 0 then x1 == y1 else x2 == y2) ⟨_, ha, rfl, 0, rfl⟩ ⟨_, hb, rfl, 0, rfl⟩ hA (fun j h1 h2 => ?_) pw w _ _ ?_
 ·simp at h1
  rcases j with _ | _ | j
  ·exact (eqGives_str _ _ _ _).at _ _
  ·exact (eqGives_str _ _ _ _).at _ _
  ·ktn_no "o4"
 ·have e : (!((List.range (min (#[Value.str x1 t1, .str x2 t2] : Array Value).size (#[Value.str y1 u1, .str y2 u2] : Array Value).size)).all (fun j => if j = 0 then x1 == y1 else x2 == y2) && (#[Value.str x1 t1, .str x2 t2] : Array Value).size == (#[Value.str y1 u1, .str y2 u2] : Array Value).size)) = (!((x1 == y1) && (x2 == y2))) := by
   simp [List.range_succ]
  rw [e]
  exact q
end
section
variable {w : World} {B : Heap} {L : Addr} {m : PySem.Str → Option Value} {cl : List (PySem.Str × Addr)} {cm : PySem.Str → Option Value} {news : List (Addr × Obj)} {s₀ s : Shared} {A : Around} {E : Value → Shared → Prop} {Q : Value → Shared → Prop}
theorem zhF {n : Nat} {f : Addr} {oc : Value} {od : Option Addr} {osl : Array (Option Value)} {fd : FuncData} {body : List Stmt} {pos : List Value} {kw : List (PySem.Str × Value)} {binds : List (PySem.Str × Value)} {cmF : PySem.Str → Option Value}
  (R : Room (n + 1) A) (F : Fm w B L cl s₀ m cm news s)
  (ho : (KF w.params).lookup f = some ⟨oc, od, .func fd, osl⟩) (hcd : codeIn (KF w.params) fd.code fd.qualname = true) (hbody : fd.body = .stmts body) (hbind : BindsTo s fd ⟨pos, kw⟩ binds)
  (hcell : (fd.scope.names.all fun x => decide (x.2 ≠ .cell)) = true) (hloc : (binds.all fun x => decide (fd.scope.names.lookup x.1 = some .local)) = true)
  (hcl : ∀ n c, fd.closure.lookup n = some c → c < szTop ∧ ¬ Tab c ∧ ∃ o, (KF w.params).lookup c = some o ∧ o.data = .cell (cmF n)) (hcp : ∀ n n' c, fd.closure.lookup n = some c → fd.closure.lookup n' = some c → n = n')
  (h : ∀ Qo : Flow → Shared → Prop, (∀ fl s', Back w B L m cl cm news s₀ s Q (retV fl) s' → Qo fl s') → ∀ L' s₁, L' = s.heap.objs.size → Fm w (under s news) L' fd.closure s (bnd binds) cmF news s₁ → Room n (A.deeper (callEnv fd L' f)) →
   wpAny (M w) (A.deeper (callEnv fd L' f)) (execs body (callEnv fd L' f)) Qo (fun _ _ => False) s₁)
  (hco : fd.scope.isCoroutine = false) (hgen : fd.scope.isGenerator = false) (hk : fd.scope.kind = .function) : codeAny (M w) A (.call (.ref f) ⟨pos, kw⟩) (fun r s' => match r with | .ok (.ret v) => Q v s' | .ok _ => False | .error e => E e s') s := by
 have X := F.K
 refine (codeAny_call_def (fd := fd) (body := body) (binds := binds) R.lt (X _ _ ho) rfl (F.wf.nl.keeps F.keep) (codeRec_of X hcd) hbody hbind
  (fun x hx => of_decide_eq_true (List.all_eq_true.mp hcell x hx)) (locs hloc) (fun h₁ hns hk₁ => ?_) hco hgen hk)
 have hz : s.heap.objs.size < h₁.objs.size := hns.lt
 refine wpAny_mono (h _ (fun _ _ x => x) s.heap.objs.size _ rfl (F.enter rfl hns hk₁ (Nat.le_of_lt hz) (fun n c e => ?_) (fun n c e => ?_) hcp) R.deeper) (fun fl s' hb => ?_) (fun _ _ x => x.elim)
 ·obtain ⟨_, _, o, ho, hd⟩ := hcl n c e
  exact ⟨o, hk₁ _ _ (X _ _ ho), hd⟩
 ·obtain ⟨hs, hT, o, ho, hd⟩ := hcl n c e
  refine ⟨Nat.ne_of_lt (Heap.lt_size (X _ _ ho)), fun q => ?_, hT⟩
  (refine x1_2 (List.mem_map.mp q) ?_; intro p hp e')
  exact absurd hs (by rw [← e']; exact Nat.not_lt.mpr (F.nw p hp).2.2.2)
 ·cases fl <;> exact hb.go F
end
section
variable {w : World} {B : Heap} {L : Addr} {m : PySem.Str → Option Value} {cl : List (PySem.Str × Addr)} {cm : PySem.Str → Option Value} {own rest news : List (Addr × Obj)} {s₀ s : Shared} {A : Around} {E : Value → Shared → Prop} {Q : Value → Shared → Prop} {n : Nat} {x : Addr} {its : List (PySem.Str × PySem.Str)} {init : Int}
theorem zgI {a b : PySem.Str} {ta tb : Tok} (R : Room (n + 5) A) (F : Fm w B L cl s₀ m cm (own ++ rest) s) (P : AccP x its init own) (hz : its.length ≤ 900)
  (h : ∀ own' s', AccP x (its ++ [(a, b)]) init own' → Fm w B L cl s₀ m cm (own' ++ rest) s' → Q .none s') :
  codeAny (M w) A (.call (.ref a_Acc_push) ⟨[.ref x, .str a ta, .str b tb], []⟩) (fun r s' => match r with | .ok (.ret v) => Q v s' | .ok _ => False | .error e => E e s') s := by
 refine zhF (binds := [("self", .ref x), ("fws", .str a ta), ("string", .str b tb)]) (fd := fd_Acc_push) (cmF := fun _ => none) R F (zcg _) (zci _) rfl (BindsTo.of_eq rfl) (by decide) (by kernel_rfl) (fun _ _ e => (by cases e)) (fun _ _ _ e => (by cases e)) ?_ rfl rfl rfl
 obtain ⟨dx, n, k, vs, l, es, t, rfl, hE, hT⟩ := P
 intro Qo hQo L' s₁ hL F₁ R₁
 obtain ⟨h₁, g₁, d₁, k₁, o₁⟩ := s₁
 have X := F₁.K
 have hx := F₁.at 0 rfl
 have hd := F₁.at 1 rfl
 ktn_no "ast"
 ktn_no "w"
 refine za9 X hx hd hE (by ktn_no "k_ev") (by ktn_no "k_ev") (by decide +kernel) (by ktn_no "k_ev") ?_
 ktn_no "w"
 refine zae (by simp) ?_
 ktn_no "w"
 have F₂ := Fm.push F₁ (tupO [.str a ta, .str b tb]) (tk := k₁)
 have hx' := F₂.at 1 rfl
 refine zcF F₂.K hx' (by rw [hT.len]; ktn_no "o4") fun h' n' hs hx'' => ?_
 have F₃ := F₂.set (i := 1) rfl hs hx'' (tk := k₁)
 ktn_no "w"
 refine hQo _ _ <| Back.of (F₃.perm (news' := ((x, accO dx (vs ++ [.ref h₁.objs.size]) n') :: (dx, dictOf es k) :: (l ++ [(h₁.objs.size, tupO [.str a ta, .str b tb])])) ++ rest) ?_) fun G => h _ _ ⟨_, _, _, _, _, _, _, rfl, hE, hT.append (.cons .nil)⟩ G
 simp only [List.cons_append, List.set]
 ktn_no "perm_tac"
end
section
variable {w : World} {A : Around} {E : Value → Shared → Prop} {x dx q : Addr} {vs : List Value} {n : Nat} {h : Heap} {g : Array GenState} {d : Drawn} {tk : Nat} {os : OsState} {env : Env} {pos : Pos} {k c : Nat} {es : List DictEntry} {mm : PySem.Str → Option Value}
theorem zgn {Q : Value → Shared → Prop} {ex : Bool} (X : (KF w.params).In h) (hx : h.get? x = some (accO dx vs n)) (hd : h.get? dx = some (dictOf es k)) (hD : EsOk es mm c) (hm : mm "push" = none)
  (q : Q (.ref h.objs.size) ⟨h.push (methodObj (.ref a_Acc_push) (.ref x)), g, d, tk + 1, os⟩) : wpAny (M w) A (getAttr (.ref x) "push" ex) Q E ⟨h, g, d, tk, os⟩ := by
 unfold getAttr getAttrBy
 ktn_no "go"
 rw [show onTheHeap (Value.builtin "list.__getattribute__") = false from rfl, Bool.and_false, if_neg Bool.false_ne_true]
 unfold boundAndCalled
 refine wpAny_bind ?_
 ktn_no "st_one"
 refine zav (i := "list.__getattribute__") (owner := "list") (n := "__getattribute__") (b := Builtin.«object.__getattribute__») (by first | exact .inr (by decide +kernel) | exact .inl (by decide +kernel)) (by decide +kernel) (by decide +kernel) (entryFor_alias (id' := "object.__getattribute__") (by decide +kernel) (by decide +kernel) (by decide +kernel) (by rw [fastTable_eq_tree]; kernel_rfl)) (by unfold argsOk; kernel_rfl) (zah hx X (by ktn_no "k_ev")) ?_
 unfold Builtin.«object.__getattribute__»
 have L : Looks (model pw w) h (Builtin.ObjectAttr.find (.ref x) (.ref a_Acc) "push") (.bind (.builtin "function.__get__") (.ref a_Acc_push)) := looks_find X (zc7 hx hd) (findObj_fn (by ktn_no "k_ev") (by ktn_no "k_ev") (by ktn_no "k_ev") (by ktn_no "k_ev") (by decide +kernel) (by rw [hD.look, hm]))
 repeat (first | (with_reducible refine Looks.at L ?_; dsimp only) | (ktn_no "no_call"; ktn_no "st_one"))
 exact wpAny_call (fn_get (s := ⟨h, g, d, tk + 1, os⟩) X (by ktn_no "k_ev") (wpAny_pure ⟨_, rfl, handed_on rfl q⟩))
theorem mc_star {o e : Expr} {name : PySem.Str} {apos p : Pos} {Q : Value → Shared → Prop} {s : Shared}
  (h : wpAny (M w) A (eval o env) (fun ov s₁ => wpAny (M w) A (getAttr ov name true) (fun f s₂ => wpAny (M w) A (callWith pos f [] (backTo pos (starEach [.Starred e p] env)) []) Q E s₂) E s₁) E s)
  (hbase : attributeBase o name env (eval o env) = eval o env) : wpAny (M w) A (eval (.Call (.Attribute o name apos) [.Starred e p] [] pos) env) Q E s := by
 rw [arm_eval_Call, hbase]
 refine wpAny_bind (wpAny_mono h (fun ov s₁ h₁ => ?_) fun _ _ e => e)
 refine wpAny_bind (wpAny_standAt ?_)
 have hfew : methodCallForm ([Expr.Starred e p].length + ([] : List Keyword).length) (backTo pos (starEach [.Starred e p] env)) (backToKw pos (keywordEach [] env)) = false := rfl
 unfold methodCall
 rw [hfew]
 refine wpAny_bind (wpAny_holding ?_)
 unfold calleeOf
 (ktn_no "iN"; exact (by decide))
 refine wpAny_bind (wpAny_mono h₁ (fun fx s₂ h₂ => ?_) fun _ _ e => e)
 refine wpAny_pure ?_
 unfold methodCallPos
 exact wpAny_bind (wpAny_pure h₂)
theorem cw_mstar {f : Addr} {e : Expr} {p : Pos} {Q : Value → Shared → Prop} {s : Shared} (hf : fnIn (KF w.params) f = true)
  (h : wpAny (M w) A (eval e env) (fun v s₁ => StarOf (M w) A E v (fun vs s₂ => MethP (KF w.params) q f (.ref x) s₂.heap ∧ codeAny (M w) A (.call (.ref f) ⟨.ref x :: vs, []⟩) (fun r s' => match r with | .ok (.ret v) => Q v s' | .ok _ => False | .error e => E e s') s₂) s₁) E s) :
  wpAny (M w) A (callWith pos (.ref q) [] (backTo pos (starEach [.Starred e p] env)) []) Q E s := by
 have he : starEach [.Starred e p] env = [(true, eval e env)] := rfl
 rw [he]
 refine ks_call (P := MethP (KF w.params) q f (.ref x)) rfl (keeps_M hf) (ks_lone (wpAny_mono h (fun v s₁ h₁ => ?_) fun _ _ z => z))
 unfold StarOf at h₁ ⊢
 refine wpAny_mono h₁ (fun b s₂ ⟨hb, hc⟩ => ⟨hb, wpAny_mono hc (fun vs s₃ ⟨P, hcode⟩ => ⟨P, ?_⟩) fun _ _ z => z⟩) fun _ _ z => z
 refine wpAny_call (codeAny_of_tree ?_)
 show wpAny _ _ (callAny (.ref q) _) _ _ _
 unfold callAny
 refine wpAny_bind (wpAny_load P.1 ?_)
 dsimp only
 (ktn_no "iP"; exact (by decide))
 exact wpAny_pure ⟨rfl, hcode⟩
end
theorem zeJ {c : Nat} : ∀ {l : List PySem.Str} {a : PySem.Str}, (c ∈ a.cps ∨ ∃ z ∈ l, c ∈ z.cps) → c ∈ (l.foldl (· ++ ·) a).cps
 | [], a, h => by
  rcases h with h | ⟨z, hz, _⟩
  ·exact h
  ·cases hz
 | y :: r, a, h => by
  refine zeJ (l := r) (a := a ++ y) ?_
  have e : (a ++ y).cps = a.cps ++ y.cps := rfl
  rcases h with h | ⟨z, hz, hc⟩
  ·exact .inl (by rw [e]; exact Array.mem_append.mpr (.inl h))
  ·rcases List.mem_cons.mp hz with rfl | hz
   ·exact .inl (by rw [e]; exact Array.mem_append.mpr (.inr hc))
   ·exact .inr ⟨z, hz, hc⟩
theorem zeo (its : List (PySem.Str × PySem.Str)) : accStr its = (its.map fun y => y.1 ++ y.2).foldl (· ++ ·) ⟨#[]⟩ := by
 unfold accStr
 rw [eq_of_beq (join_closes (sep := (⟨#[]⟩ : PySem.Str)) (ys := its.map fun y => y.1 ++ y.2) rfl)]
 exact (fold_cat_join_nil _).symm
theorem zds {c : Nat} {its : List (PySem.Str × PySem.Str)} (hc : Txt.isspace ⟨#[c]⟩ = false) (hw : ∀ y ∈ its, Word c y) (hne : its ≠ []) : Txt.isspace (accStr its) = false := by
 have hc' : Unicode.isSpace c = false := by simpa [Txt.isspace, PySem.Str.length] using hc
 obtain ⟨y, hy⟩ := List.exists_mem_of_ne_nil _ hne
 have hm : c ∈ (accStr its).cps := by
  rw [zeo]
  refine zeJ (.inr ⟨y.1 ++ y.2, List.mem_map_of_mem hy, ?_⟩)
  obtain ⟨_, ⟨l, hl⟩, _⟩ := hw y hy
  show c ∈ y.1.cps ++ y.2.cps
  rw [hl]; simp
 unfold Txt.isspace
 have : (accStr its).cps.all Unicode.isSpace = false := by
  rw [← Bool.not_eq_true, Array.all_eq_true_iff_forall_mem]
  intro h; rw [h c hm] at hc'; cases hc'
 rw [this, Bool.and_false]
theorem ze5 {c : Nat} {its : List (PySem.Str × PySem.Str)} (hw : ∀ y ∈ its, Word c y) (hne : its ≠ []) : 0 < accLen 0 its := by
 cases its with
 | nil => exact absurd rfl hne
 | cons y r =>
  have := (zbO (its := r) fun z hz => hw z (.tail _ hz)).1
  obtain ⟨_, ⟨l, hl⟩, _⟩ := hw y (.head _)
  have h2 : y.2.length = l.size + 1 := by show y.2.cps.size = _; rw [hl]; simp
  simp only [accLen, List.map_cons, List.sum_cons] at this ⊢
  rw [h2]; push_cast; ktn_no "o4"
section
variable {w : World} {B : Heap} {L : Addr} {m : PySem.Str → Option Value} {cl : List (PySem.Str × Addr)} {cm : PySem.Str → Option Value} {own rest news : List (Addr × Obj)} {s₀ s : Shared} {A : Around} {E : Value → Shared → Prop} {Q : Value → Shared → Prop} {n : Nat} {x : Addr} {its : List (PySem.Str × PySem.Str)} {lines : List PySem.Str} {mx : Int} {c : Nat} {sc : PySem.Str}
theorem zde (R : Room (n + 40) A) (F : Fm w B L cl s₀ m cm (own ++ rest) s) (P : VfP x mx sc lines its own) (hc : Txt.isspace ⟨#[c]⟩ = false) (hne : its ≠ []) (hw : ∀ y ∈ its, Word c y) (hz : its.length ≤ 100) (hl : lines.length ≤ 800)
  (h : ∀ own' s', VfP x mx sc (lines ++ [accStr its]) [] own' → Fm w B L cl s₀ m cm (own' ++ rest) s' → Q .none s') :
  wpAny (M w) A (call (.ref a_VF_newline) [.ref x] []) Q E s := by
 refine zam (binds := [("self", .ref x)]) (fd := fd_VF_newline) (cmF := fun _ => none) R F (zcR _) (zcL _) rfl (BindsTo.of_eq rfl) (by decide) (by kernel_rfl) (fun _ _ e => (by cases e)) (fun _ _ _ e => (by cases e)) ?_ rfl rfl rfl
 obtain ⟨dv, kd, es, u1, u2, u3, u4, ll, ac, l, nl, oa, rfl, hE, hl1, hP⟩ := P
 intro Qo hQo L' s₁ hL F₁ R₁
 obtain ⟨h₁, g₁, d₁, k₁, o₁⟩ := s₁
 ktn_no "ast"
 ktn_no "x"
 refine vf_get F₁.K (F₁.at 0 rfl) (F₁.at 1 rfl) hE (by ktn_no "k_val") (by kernel_rfl) (by ktn_no "k_ev") ?_
 ktn_no "x"
 have F₂ := F₁.perm (news' := oa ++ ((x, vfO dv) :: (dv, dictOf es kd) :: (ll, lsO (strValues l) nl) :: rest)) (by ktn_no "perm_tac")
 refine zac F₂ hP (by ktn_no "k_ev") (by ktn_no "k_ev") (by decide +kernel) (by decide +kernel) ?_
 ktn_no "x"
 refine zbn (n := n + 20) (R₁.less (by ktn_no "le")) (F₂.toks _) hP (by ktn_no "om") fun oa₃ q tq1 tq2 s' P₃ F₃ => ?_
 obtain ⟨h₃, g₃, d₃, k₃, o₃⟩ := s'
 clear F₁ F₂
 have hlast : Word c (its.getLastD ("", "")) := by
  rw [List.getLastD_eq_getLast?, List.getLast?_eq_some_getLast hne]
  exact hw _ (List.getLast_mem hne)
 have eits : its.dropLast ++ [its.getLastD ("", "")] = its := by
  have e2 : its.getLastD ("", "") = its.getLast hne := by
   rw [List.getLastD_eq_getLast?, List.getLast?_eq_some_getLast hne]; rfl
  rw [e2]
  exact List.dropLast_concat_getLast hne
 revert F₃ hlast eits
 generalize its.getLastD ("", "") = gl
 intro F₃ hlast eits
 refine st_L F₃ (by kernel_rfl) (by kernel_rfl!) (by kernel_rfl) fun h₄ F₄ => ?_
 clear F₃
 ktn_no "x"
 refine zae (by simp) ?_
 have F₅ := F₄.push1 (d := d₃) (tk := k₃ + 1 + 1 + 1) (tupO [.str (Str.ofString " ") (k₃ + 1), .str (Str.ofString "") (k₃ + 1 + 1)])
 refine ne_tup2 R₁.cl (F₅.at 1 rfl) (F₅.at 0 rfl) ?_
 have e1 : (gl.1 == (Str.ofString " " : PySem.Str)) = false := by rw [hlast.1]; decide
 rw [e1]
 ktn_no "x"
 (ktn_no "iP"; exact (by simp))
 have F₆ := (F₅.perm (news' := (h₄.objs.size, tupO [.str (Str.ofString " ") (k₃ + 1), .str (Str.ofString "") (k₃ + 1 + 1)]) :: (x, vfO dv) :: (dv, dictOf es kd) :: (ll, lsO (strValues l) nl) :: (q, tupO [.str gl.1 tq1, .str gl.2 tq2]) :: (oa₃ ++ rest)) (by ktn_no "perm_tac")).drop 1
 dsimp only [List.drop] at F₆
 clear F₄ F₅
 refine wpAny_execs_cons (wpAny_Expr_any (mc_star ?_ (by kernel_rfl)) (by kernel_rfl) (by kernel_rfl))
 ktn_no "x"
 refine vf_get F₆.K (F₆.at 0 rfl) (F₆.at 1 rfl) hE (by ktn_no "k_val") (by kernel_rfl) (by ktn_no "k_ev") ?_
 ktn_no "x"
 have G₂ := F₆.perm (news' := oa₃ ++ ((x, vfO dv) :: (dv, dictOf es kd) :: (ll, lsO (strValues l) nl) :: (q, tupO [.str gl.1 tq1, .str gl.2 tq2]) :: rest)) (by ktn_no "perm_tac")
 obtain ⟨dx₆, n₆, kk₆, vs₆, la₆, es₆, ta₆, rfl, hE₆, hT₆⟩ := P₃
 refine zgn G₂.K (G₂.at 0 rfl) (G₂.at 1 rfl) hE₆ (by kernel_rfl) ?_
 have F₇ := F₆.push1 (d := d₃) (tk := k₃ + 1 + 1 + 1 + 1 + 1) (methodObj (.ref a_Acc_push) (.ref ac))
 refine cw_mstar (x := ac) (f := a_Acc_push) (by kernel_rfl) ?_
 ktn_no "x"
 refine zhz F₇ (F₇.at 4 rfl) (by simp) fun h₈ F₈ => ⟨⟨F₈.at 0 rfl, F₈.K⟩, ?_⟩
 have F₉ := F₈.drop 1
 dsimp only [List.drop] at F₉
 have G₃ := F₉.perm (news' := ((ac, accO dx₆ vs₆ n₆) :: (dx₆, dictOf es₆ kk₆) :: la₆) ++ ((x, vfO dv) :: (dv, dictOf es kd) :: (ll, lsO (strValues l) nl) :: (q, tupO [.str gl.1 tq1, .str gl.2 tq2]) :: rest)) (by ktn_no "perm_tac")
 refine zgI (n := n + 20) (R₁.less (by ktn_no "le")) (G₃.toks _) ⟨_, _, _, _, _, _, _, rfl, hE₆, hT₆⟩ (by simp; ktn_no "o4") fun oa₁₀ s' P₁₀ F₁₀ => ?_
 obtain ⟨h₁₀, g₁₀, d₁₀, k₁₀, o₁₀⟩ := s'
 clear G₂ G₃ F₆ F₇ F₈ F₉
 have P₁₀ : AccP ac its 0 oa₁₀ := eits ▸ P₁₀
 have F₁₁ := F₁₀.perm (news' := (x, vfO dv) :: (dv, dictOf es kd) :: (ll, lsO (strValues l) nl) :: (oa₁₀ ++ ((q, tupO [.str gl.1 tq1, .str gl.2 tq2]) :: rest))) (by ktn_no "perm_tac")
 have hb := zbO hw
 have hpos := ze5 hw hne
 ktn_no "x"
 refine vf_get F₁₁.K (F₁₁.at 0 rfl) (F₁₁.at 1 rfl) hE (by ktn_no "k_val") (by kernel_rfl) (by ktn_no "k_ev") ?_
 ktn_no "x"
 refine zeI (n := n + 10) (R₁.less (by ktn_no "le")) (F₁₀.toks _) P₁₀ (fun y hy => (hw y hy).b1) hb.1 (Int.lt_of_le_of_lt hb.2 (Int.lt_of_le_of_lt (Int.mul_le_mul_of_nonneg_left (Int.ofNat_le.mpr hz) (by decide)) (by decide))) fun t₁₂ s' F₁₂ => ?_
 obtain ⟨h₁₂, g₁₂, d₁₂, k₁₂, o₁₂⟩ := s'
 clear F₁₀ F₁₁
 have F₁₃ := F₁₂.perm (news' := (x, vfO dv) :: (dv, dictOf es kd) :: (ll, lsO (strValues l) nl) :: (oa₁₀ ++ ((q, tupO [.str gl.1 tq1, .str gl.2 tq2]) :: rest))) (by ktn_no "perm_tac")
 ktn_no "x"
 (ktn_no "iP"; exact (by simpa using hpos))
 ktn_no "x"
 refine vf_get F₁₃.K (F₁₃.at 0 rfl) (F₁₃.at 1 rfl) hE (by ktn_no "k_val") (by kernel_rfl) (by ktn_no "k_ev") ?_
 ktn_no "x"
 refine zac F₁₂ P₁₀ (by ktn_no "k_ev") (by ktn_no "k_ev") (by decide +kernel) (by decide +kernel) ?_
 ktn_no "x"
 refine zeb (n := n + 10) (R₁.less (by ktn_no "le")) (F₁₂.toks _) P₁₀ (by ktn_no "om") (fun y hy => (hw y hy).b2) hb.1 (Int.lt_of_le_of_lt hb.2 (Int.lt_of_le_of_lt (Int.mul_le_mul_of_nonneg_left (Int.ofNat_le.mpr hz) (by decide)) (by decide))) fun s' F₁₄ => ?_
 obtain ⟨h₁₄, g₁₄, d₁₄, k₁₄, o₁₄⟩ := s'
 clear F₁₂ F₁₃
 have F₁₅ := F₁₄.perm (news' := (x, vfO dv) :: (dv, dictOf es kd) :: (ll, lsO (strValues l) nl) :: (oa₁₀ ++ ((q, tupO [.str gl.1 tq1, .str gl.2 tq2]) :: rest))) (by ktn_no "perm_tac")
 rw [zds hc hw hne, show (accLen 0 its == 0) = false by simp; ktn_no "o4"]
 ktn_no "x"
 (ktn_no "iN"; exact (by decide))
 try rw [if_neg (by decide)]
 ktn_no "x"
 refine vf_get F₁₅.K (F₁₅.at 0 rfl) (F₁₅.at 1 rfl) hE (by ktn_no "k_val") (by kernel_rfl) (by ktn_no "k_ev") ?_
 ktn_no "x"
 refine Calls.getMethod_list_append (F₁₅.at 2 rfl) rfl rfl ?_
 ktn_no "x"
 refine vf_get F₁₅.K (F₁₅.at 0 rfl) (F₁₅.at 1 rfl) hE (by ktn_no "k_val") (by kernel_rfl) (by ktn_no "k_ev") ?_
 ktn_no "x"
 refine zcW (n := n + 10) (R₁.less (by ktn_no "le")) (F₁₄.toks _) P₁₀ (by ktn_no "om") (fun y hy => (hw y hy).b2) fun t₁₆ s' F₁₆ => ?_
 obtain ⟨h₁₆, g₁₆, d₁₆, k₁₆, o₁₆⟩ := s'
 clear F₁₄ F₁₅
 have G₁ := F₁₆.perm (news' := (x, vfO dv) :: (dv, dictOf es kd) :: (ll, lsO (strValues l) nl) :: (oa₁₀ ++ ((q, tupO [.str gl.1 tq1, .str gl.2 tq2]) :: rest))) (by ktn_no "perm_tac")
 ktn_no "x"
 have hll : l.length = lines.length := by rw [← hl1]; simp
 refine append_at (G₁.at 2 rfl) (fun h₂₀ hs₂₀ hx₂₀ => ?_) (Nat.le_trans (by simp [strValues]; ktn_no "o4") (show (1000 : Nat) ≤ sizeLine by decide))
 have F₂₀ := G₁.set1 (i := 2) (d := d₁₆) (tk := k₁₆) rfl hs₂₀ hx₂₀
 dsimp only [List.set] at F₂₀
 clear F₁₆ G₁
 ktn_no "x"
 refine vf_get F₂₀.K (F₂₀.at 0 rfl) (F₂₀.at 1 rfl) hE (by ktn_no "k_val") (by kernel_rfl) (by ktn_no "k_ev") ?_
 ktn_no "x"
 have G₂ := F₂₀.perm (news' := oa₁₀ ++ ((x, vfO dv) :: (dv, dictOf es kd) :: (ll, ⟨.type "list", none, .seq ((strValues l).toArray.push (.str (accStr its) t₁₆)) (nl + 1), #[]⟩) :: (q, tupO [.str gl.1 tq1, .str gl.2 tq2]) :: rest)) (by ktn_no "perm_tac")
 refine zac G₂ P₁₀ (by ktn_no "k_ev") (by ktn_no "k_ev") (by decide +kernel) (by decide +kernel) ?_
 ktn_no "x"
 refine zfr (n := n + 20) (R₁.less (by ktn_no "le")) (G₂.toks _) P₁₀ (by ktn_no "om") fun own3 s' P₇ F₂₁ => ?_
 obtain ⟨h₂₁, g₂₁, d₂₁, k₂₁, o₂₁⟩ := s'
 ktn_no "x"
 have e5 : (strValues l).toArray.push (.str (accStr its) t₁₆) = (strValues (l ++ [(accStr its, t₁₆)])).toArray := by simp [strValues]
 rw [e5] at F₂₁
 refine hQo _ _ <| Back.of ((F₂₁.perm (news' := (q, tupO [.str gl.1 tq1, .str gl.2 tq2]) :: ((x, vfO dv) :: (dv, dictOf es kd) :: (ll, ⟨.type "list", none, .seq (strValues (l ++ [(accStr its, t₁₆)])).toArray (nl + 1), #[]⟩) :: own3) ++ rest) (by ktn_no "perm_tac")).drop 1) fun G => ?_
 exact h ((x, vfO dv) :: (dv, dictOf es kd) :: (ll, lsO (strValues (l ++ [(accStr its, t₁₆)])) (nl + 1)) :: own3) _ ⟨_, _, _, _, _, _, _, _, _, _, _, _, rfl, hE, by simp [hl1], P₇⟩ G
end
section
variable {w : World} {B : Heap} {L : Addr} {m : PySem.Str → Option Value} {cl : List (PySem.Str × Addr)} {cm : PySem.Str → Option Value} {own rest news : List (Addr × Obj)} {s₀ s : Shared} {A : Around} {E : Value → Shared → Prop} {Q : Value → Shared → Prop} {n : Nat} {x : Addr} {its : List (PySem.Str × PySem.Str)} {lines : List PySem.Str} {mx : Int} {c : Nat} {sc : PySem.Str}
theorem zfc {sep : PySem.Str} {ts : Tok} (R : Room (n + 44) A) (F : Fm w B L cl s₀ m cm (own ++ rest) s) (P : VfP x mx sc lines its own) (hc : Txt.isspace ⟨#[c]⟩ = false) (hne : its ≠ []) (hw : ∀ y ∈ its, Word c y) (hz : its.length ≤ 100) (hl : lines.length ≤ 800)
  (hj : JoinOk sep (lines ++ [accStr its]) = true)
  (h : ∀ t own' s', VfP x mx sc (lines ++ [accStr its]) [] own' → Fm w B L cl s₀ m cm (own' ++ rest) s' → Q (.str (Txt.join sep (lines ++ [accStr its])) t) s') :
  wpAny (M w) A (call (.ref a_VF_str) [.ref x, .str sep ts] []) Q E s := by
 refine zam (binds := [("self", .ref x), ("linesep", .str sep ts)]) (fd := fd_VF_str) (cmF := fun _ => none) R F (zf8 _) (zgK _) rfl (BindsTo.of_eq rfl) (by decide) (by kernel_rfl) (fun _ _ e => (by cases e)) (fun _ _ _ e => (by cases e)) ?_ rfl rfl rfl
 have P₀ := P
 obtain ⟨dv, kd, es, u1, u2, u3, u4, ll, ac, l, nl, oa, rfl, hE, hl1, hP⟩ := P
 intro Qo hQo L' s₁ hL F₁ R₁
 obtain ⟨h₁, g₁, d₁, k₁, o₁⟩ := s₁
 ktn_no "ast"
 ktn_no "x"
 refine zcc F₁.K (F₁.at 0 rfl) (F₁.at 1 rfl) hE (by ktn_no "k_ev") (by ktn_no "k_ev") (by kernel_rfl) ?_
 ktn_no "x"
 refine zde (n := n + 2) (R₁.less (by ktn_no "le")) (F₁.toks _) P₀ hc hne hw hz hl fun own2 s' P₂ F₂ => ?_
 obtain ⟨h₂, g₂, d₂, k₂, o₂⟩ := s'
 have P₃ := P₂
 obtain ⟨dv, kd, es, u1, u2, u3, u4, ll, ac, l, nl, oa, rfl, hE, hl1, hP⟩ := P₂
 clear F₁
 ktn_no "x"
 refine GM.join ?_
 ktn_no "x"
 refine vf_get F₂.K (F₂.at 0 rfl) (F₂.at 1 rfl) hE (by ktn_no "k_val") (by kernel_rfl) (by ktn_no "k_ev") ?_
 ktn_no "x"
 refine zaZ (F₂.at 2 rfl) (.inl rfl) rfl (by rw [hl1]; exact hj) fun t' k' => ?_
 refine hQo _ _ <| Back.of (Fm.toks F₂ _) fun G => ?_
 rw [hl1]
 exact h _ _ _ P₃ G
end
section
variable {prog : Program} {w : World} {A : Around} {R : GenEnd} {Y : Protocol} {n : Nat} {s₀ : Shared} {c : Code} {fs : List Frame} {s : Shared} {env : Env}
 {K : Flow → Sem Fin} {H : Value → Sem Fin} {gd : Bool → Bool} {lv : List Value → List Value}
theorem zbp {st : Stmt} {rest : List Stmt} (h : wpAny (model prog w) (A.over c fs) (exec st env) (fun f s' => match f with
      | .next => Seg (model prog w) A R Y n s₀ c ((execs rest env).wrap K H gd lv) fs s'
      | f => Seg (model prog w) A R Y n s₀ c (K f) fs s') (fun _ _ => False) s) :
  Seg (model prog w) A R Y n s₀ c ((execs (st :: rest) env).wrap K H gd lv) fs s := by
 refine seg_execs_cons (seg_wrap (wpAny_mono h (fun f s' h' => ?_) fun _ _ z => z.elim))
 cases f <;> exact h'
theorem seg_bw {α β : Type} {m : Sem α} {k : α → Sem β} {K : β → Sem Fin} (h : wpAny (model prog w) (A.over c fs) m (fun a s' => Seg (model prog w) A R Y n s₀ c ((k a).wrap K H gd lv) fs s') (fun _ _ => False) s) :
  Seg (model prog w) A R Y n s₀ c ((m >>= k).wrap K H gd lv) fs s := by
 rw [Sem.bind_eq_wrap', Sem.wrap_wrap]
 exact seg_wrap (wpAny_mono h (fun _ _ z => z) fun _ _ z => z.elim)
theorem exec_If (test : Expr) (body orelse : List Stmt) (pos : Pos) : exec (.If test body orelse pos) env = (do
  standAt pos
  if ← isTrue test env (eval test env) then execs body env else execs orelse env) := rfl
theorem seg_If {test : Expr} {body orelse : List Stmt} {pos : Pos}
  (h : wpAny (model prog w) (A.over c fs) (isTrue test env (eval test env)) (fun b s' =>
   if b = true then Seg (model prog w) A R Y n s₀ c ((execs body env).wrap K H gd lv) fs s' else Seg (model prog w) A R Y n s₀ c ((execs orelse env).wrap K H gd lv) fs s') (fun _ _ => False) s) :
  Seg (model prog w) A R Y n s₀ c ((exec (.If test body orelse pos) env).wrap K H gd lv) fs s := by
 rw [exec_If]
 refine seg_at ?_
 show Seg _ A R Y n s₀ c (Sem.wrap K H gd lv (isTrue test env (eval test env) >>= fun b => if b = true then execs body env else execs orelse env)) fs s
 refine seg_bw (wpAny_mono h (fun b s' hb => ?_) fun _ _ z => z.elim)
 cases b with
 | true => exact hb
 | false => exact hb
theorem seg_For {target iter : Expr} {body orelse : List Stmt} {pos : Pos} (hs : ∀ x, foldedSetIterable iter env x = pure x)
  (h : wpAny (model prog w) (A.over c fs) (eval iter env) (fun xv s₁ => wpAny (model prog w) (A.over c fs) (pyIter xv) (fun it s₂ =>
   ∀ p, Seg (model prog w) A R Y n s₀ (.forLoop target it body orelse env) ((model prog w).den (.forLoop target it body orelse env))
   (.ret (fun r => ((match r with | .ok f => (.pure f : Sem Flow) | .error e => .raise e).onRaise fun (x : Value) => do
    if (← field x 1) == Value.none then unsupported "frame.own-activation:exception-without-traceback"
    setFlight x env.frame).wrap K H gd lv) none (gd false) (lv []) c p [] :: fs) s₂) (fun _ _ => False) s₁) (fun _ _ => False) s) :
  Seg (model prog w) A R Y n s₀ c ((exec (.For target iter body orelse pos) env).wrap K H gd lv) fs s := by
 rw [arm_exec_For]
 refine seg_at ?_
 show Seg _ A R Y n s₀ c (Sem.wrap K H gd lv (eval iter env >>= fun x => foldedSetIterable iter env x >>= fun x => standAt iter.pos >>= fun _ => holding [x] (pyIter x) >>= fun it => runOwn (.forLoop target it body orelse env) env)) fs s
 refine seg_bw (wpAny_mono h (fun xv s₁ h₁ => ?_) fun _ _ z => z.elim)
 refine seg_bw (wpAny_of_eq (hs xv) ?_)
 refine seg_bw (wpAny_standAt ?_)
 refine seg_bw (wpAny_holding (wpAny_mono h₁ (fun it s₂ h₂ => ?_) fun _ _ z => z.elim))
 exact seg_call h₂
theorem zb6 {target : Expr} {it : Value} {body orelse : List Stmt}
  (h : wpAny (model prog w) (A.over (.forLoop target it body orelse env) fs) (pyNext it) (fun r s₁ => match r with
   | none => Seg (model prog w) A R Y n s₀ (.block orelse env) ((model prog w).den (.block orelse env)) fs s₁
   | some v => wpAny (model prog w) (A.over (.forLoop target it body orelse env) fs) (letOwnedTupleGo target it v) (fun _ s₂ => wpAny (model prog w) (A.over (.forLoop target it body orelse env) fs) (assign target env v) (fun _ s₃ =>
     Seg (model prog w) A R Y n s₀ (.forLoop target it body orelse env) ((execs body env).wrap (fun f => match f with
      | .next | .cont => .pure (.again (.forLoop target it body orelse env))
      | .brk => .pure (.done .next)
      | .ret v => .pure (.done (.ret v))) (fun e => (do noteFrame e env; theTreesLotGoes e : Sem Unit).wrap (fun _ => .raise e) .raise id id) id id) fs s₃) (fun _ _ => False) s₂) (fun _ _ => False) s₁) (fun _ _ => False) s) :
  Seg (model prog w) A R Y n s₀ (.forLoop target it body orelse env) ((model prog w).den (.forLoop target it body orelse env)) fs s := by
 show Seg _ A R Y n s₀ _ ((forTurn target it body orelse env).onRaise (fun x => do noteFrame x env; theTreesLotGoes x)) fs s
 unfold forTurn
 rw [Sem.onRaise_eq_wrap]
 refine seg_bw (wpAny_standAt ?_)
 refine seg_bw (wpAny_onRaise (wpAny_mono h (fun r s₁ h₁ => ?_) fun _ _ z => z.elim))
 cases r with
 | none => exact seg_again rfl h₁
 | some v =>
  refine seg_bw (wpAny_mono h₁ (fun _ s₂ h₂ => ?_) fun _ _ z => z.elim)
  refine seg_bw (wpAny_mono h₂ (fun _ s₃ h₃ => ?_) fun _ _ z => z.elim)
  rw [Sem.bind_eq_wrap', Sem.wrap_wrap]
  rw [Sem.wrap_congr (execs body env) _ _ (K' := fun f => match f with
          | .next | .cont => .pure (.again (.forLoop target it body orelse env))
          | .brk => .pure (.done .next)
          | .ret v => .pure (.done (.ret v))) (H' := (fun e => (do noteFrame e env; theTreesLotGoes e : Sem Unit).wrap (fun _ => .raise e) .raise id id))
    (fun f => by cases f <;> rfl) (fun e => by show (do noteFrame e env; theTreesLotGoes e : Sem Unit).bind (fun _ => .raise e) = _; rw [Sem.bind_eq_wrap])]
  exact h₃
end
section
variable {prog : Program} {w : World} {A : Around} {E : Value → Shared → Prop} {s : Shared}
theorem zgY {a : Addr} {g n : Nat} {gs : GenState} {P : Nat → Shared → Shared → Prop} {Y : Protocol} {Q : Option Value → Shared → Prop} (hh : A.handled = none)
  (hl : s.heap.NoLimit) (hroom : A.depth < recursionLimit) (hg : s.heap.IsGen a g) (hgs : s.gens[g]? = some gs)
  (hgo : gs.Goes (model prog w) A.in1 (fun n s₀ r s₁ => r = .ok (.ret .none) ∧ P n s₀ s₁) Y n (.send .none) (s.setGen g .running))
  (hY : ∀ v s₁ gs', gs'.bare = true → Y (n - 1) (s.setGen g .running) v s₁ (fun r' s'' => match n with
    | 0 => False
    | m + 1 => gs'.Goes (model prog w) A.in1 (fun n s₀ r s₁ => r = .ok (.ret .none) ∧ P n s₀ s₁) Y m r' s'') → Q (some v) (s₁.setGen g gs'))
  (hP : ∀ s₁, P n (s.setGen g .running) s₁ → ∀ h', (∀ b o, s₁.heap.get? b = some o → h'.get? b = some o) → Q none { s₁.setGen g .finished with heap := h' }) :
  wpAny (model prog w) A (pyNext (.ref a)) Q E s := by
 unfold pyNext
 refine wpAny_bind (wpAny_attempt (wpAny_callSpecial?_slot (name := Str.ofString "__next__") hg.typeIs slot_gen_next
  (wpAny_call_entry slot_gen_next hg.typeIs entry_gen_next ?_ (args_gen_next _))))
 show wpAny _ A.in1 (Builtin.Generator.genWake (.ref a) (.send .none)) _ _ s
 unfold Builtin.Generator.genWake
 refine wpAny_bind (wpAny_holding (wpAny_genNumber hg (wpAny_bind (wpAny_genState hgs ?_))))
 cases gs with
 | running => exact hgo.elim
 | finished => exact hgo.elim
 | _ =>
  refine wpAny_bind (wpAny_roomToWake hl hroom ?_)
  show wpAny _ A.in1 (.resume g (.send .none) [] _) _ _ s
  refine wpAny_resumeQ hgs hgo (fun x s₁ hx => ?_) (fun v s₁ gs' hb hv => ?_)
  ·obtain ⟨rfl, hp⟩ := hx
   show wpAny _ A.in1 (newExc (.type "StopIteration") [] >>= _) _ _ _
   refine wpAny_bind ?_
   simp only [newExc, newTuple]
   refine wpAny_bind (wpAny_newObj_type ?_ (by size_fits))
   refine wpAny_bind (m := firstArgMember _ _) (wpAny_of_eq (a := Value.none) (by first | rfl | (simp only [firstArgMember]; rfl)) ?_)
   refine wpAny_newObj_type ?_ (by size_fits)
   simp only [raiseNew]
   refine wpAny_bind (wpAny_bind (wpAny_handled ?_))
   first | rw [show A.in1.handled = none from hh] | rw [hh]
   refine wpAny_throw ?_
   refine wpAny_bind (wpAny_isInstance (T := "StopIteration") (b := true) ⟨_, Heap.get?_push_size _ rfl, rfl⟩ isSubtype_stop ?_)
   exact wpAny_pure (hP s₁ hp _ fun b o hb => Heap.get?_push_of_some _ (Heap.get?_push_of_some _ hb))
  ·exact wpAny_pure ⟨v, rfl, wpAny_pure (hY v s₁ gs' hb hv)⟩
end
noncomputable def esc : List Nat → Nat → Bool → Nat → List (Nat × PySem.Str)
 | [], _, e, last => if e then [(last, ⟨#[92]⟩)] else []
 | c :: r, p, e, _ => if e then (p, ⟨#[92, c]⟩) :: esc r (p + 1) false p else if c = 92 then esc r (p + 1) true p else (p, ⟨#[c]⟩) :: esc r (p + 1) false p
noncomputable def units (x : PySem.Str) : List (Nat × PySem.Str) := esc x.cps.toList 0 false 0
noncomputable abbrev enumO (S : Addr) (i : Int) (old : Value) : Obj := ⟨.type "enumerate", none, .fields #[.none, .bool false, .ref S, rawInt i, .none, old], #[]⟩
noncomputable abbrev enumP (S : Addr) (i : Int) (item : Value) (a : Addr) : Obj := ⟨.type "enumerate", none, .fields #[rawInt a, .bool false, .ref S, rawInt i, .none, item], #[]⟩
noncomputable def SiO (x : PySem.Str) (tx : Tok) (p : Nat) (o : Obj) : Prop := o.cls = .type "str_ascii_iterator" ∧ o.data = .fields #[.str x tx, .int p 0]
section
variable {w : World} {B : Heap} {L E S : Addr} {m : PySem.Str → Option Value} {cl : List (PySem.Str × Addr)} {cm : PySem.Str → Option Value} {more news : List (Addr × Obj)} {s₀ s : Shared} {A : Around} {h h' : Heap} {g : Array GenState} {d d₀ : Drawn} {tk tk₀ : Nat} {os : OsState} {oE oS oE' oS' : Obj}
theorem Fm.set2 (F : Fm w B L cl s₀ m cm ((E, oE) :: (S, oS) :: more) ⟨h, g, d₀, tk₀, os⟩) (k : ∀ b o, b ≠ E → b ≠ S → h.get? b = some o → h'.get? b = some o) (hE : h'.get? E = some oE') (hS : h'.get? S = some oS') :
  Fm w B L cl s₀ m cm ((E, oE') :: (S, oS') :: more) ⟨h', g, d, tk, os⟩ := by
 (refine x0_4 (F.nw _ (.head _)) ?_; intro _ hEL hEB hEs)
 (refine x0_4 (F.nw _ (.tail _ (.head _))) ?_; intro _ hSL hSB hSs)
 have hnd := F.nd
 simp only [List.map_cons, List.nodup_cons, List.mem_cons, not_or] at hnd
 obtain ⟨⟨hES, hEm⟩, hSm, hm⟩ := hnd
 (refine x3_2 (F.ns) ?_; intro oL es ep hL r)
 have kk : ∀ b o, b ≠ E → b ≠ S → (⟨h, g, d₀, tk₀, os⟩ : Shared).heap.get? b = some o → h'.get? b = some o := k
 refine { wf := F.wf, ns := ⟨oL, es, ep, kk _ _ hEL.symm hSL.symm hL, r⟩, keep := fun b ob e => kk b ob (fun q => by rw [q, hEB] at e; cases e) (fun q => by rw [q, hSB] at e; cases e) (F.keep b ob e), above := F.above, nw := fun p hp => ?_, nd := ?_, ce := fun n c e => ?_, cd := fun n c e => ?_, cp := F.cp, tb := F.tb.part fun b ob hb e => kk b ob (fun q => absurd hb (by rw [q]; exact Nat.not_lt.mpr hEs)) (fun q => absurd hb (by rw [q]; exact Nat.not_lt.mpr hSs)) e, rl := ⟨F.rl.os, F.rl.gens, F.rl.bare, fun t ht ps e => ?_, trivial⟩ }
 ·rcases List.mem_cons.mp hp with rfl | hp
  ·exact ⟨hE, hEL, hEB, hEs⟩
  ·rcases List.mem_cons.mp hp with rfl | hp
   ·exact ⟨hS, hSL, hSB, hSs⟩
   ·(refine x0_4 (F.nw p (.tail _ (.tail _ hp))) ?_; intro a b c d)
    exact ⟨kk _ _ (fun q => hEm (List.mem_map.mpr ⟨p, hp, q⟩)) (fun q => hSm (List.mem_map.mpr ⟨p, hp, q⟩)) a, b, c, d⟩
 ·simp only [List.map_cons, List.nodup_cons, List.mem_cons, not_or]
  exact ⟨⟨hES, hEm⟩, hSm, hm⟩
 ·(refine x1_2 (F.ce n c e) ?_; intro oc hoc hd)
  have := (F.cd n c e).2.1
  simp only [List.map_cons, List.mem_cons, not_or] at this
  exact ⟨oc, kk _ _ this.1 this.2.1 hoc, hd⟩
 ·(refine x0_3 (F.cd n c e) ?_; intro a b c')
  refine ⟨a, ?_, c'⟩
  simpa using b
 ·obtain ⟨m, e'⟩ := F.rl.tg t ht ps e
  exact ⟨m, kk _ _ (fun q => tab_ne ht hEs q.symm) (fun q => tab_ne ht hSs q.symm) e'⟩
theorem zf9 {x : PySem.Str} {tx : Tok} {p c : Nat} {old : Value} {Q : Option Value → Shared → Prop} {Er : Value → Shared → Prop} (F : Fm w B L cl s₀ m cm ((E, enumO S p old) :: (S, oS) :: more) ⟨h, g, d₀, tk₀, os⟩) (hh : A.handled = none) (ho : SiO x tx p oS) (hc : x.cps[p]? = some c)
  (q : ∀ h' tk' t1 t2 oS', SiO x tx (p + 1) oS' → Fm w B L cl s₀ m cm ((h.objs.size, tupO [.int p t1, .str ⟨#[c]⟩ t2]) :: (E, enumP S (p + 1) (.str ⟨#[c]⟩ t2) h.objs.size) :: (S, oS') :: more) ⟨h', g, d, tk', os⟩ → Q (some (.ref h.objs.size)) ⟨h', g, d, tk', os⟩) :
  wpAny (M w) A (pyNext (.ref E)) Q Er ⟨h, g, d, tk, os⟩ := by
 have hES : E ≠ S := F.ne (i := 0) (j := 1) rfl rfl (by decide)
 have hlt : p < x.cps.size := by
  rcases Nat.lt_or_ge p x.cps.size with z | z
  ·exact z
  ·rw [Array.getElem?_eq_none z] at hc; cases hc
 have D := Draws.strAscii (prog := pw) (w := w) (A := A.in1) hh S x tx
 refine wpAny_pyNext_enum_itemD (s := ⟨h, g, d, tk, os⟩) D (F.at 0 rfl) ⟨oS, F.at 1 rfl, ho⟩ hlt hES (by simpa using hES) fun y h' tk' hP ho' hs' hT hsz hk => ?_
 (refine x2_2 (hP) ?_; try clear hP; intro c' t2 hc' eqX3; subst eqX3)
 rw [hc] at hc'; cases hc'
 (refine x1_2 (hs') ?_; try clear hs'; intro oS' hS' hd')
 have F₁ := F.withD (d := d) (tk := tk)
 have F₂ := Fm.set2 (h' := h') (d := d) (tk := tk' + 1) F (fun b o h1 h2 e => hk b o h1 h2 e) ho' hS'
 refine q h' (tk' + 1) tk' t2 oS' hd' ?_
 have hB : B.get? h.objs.size = none := by
  cases z : B.get? h.objs.size with
  | none => rfl
  | some o => exact absurd (Heap.lt_size (F.keep _ _ z)) (Nat.lt_irrefl _)
 have nm : h.objs.size ∉ ((E, enumO S p old) :: (S, oS) :: more).map (·.1) := fun z => by
  simp only [List.map_cons, List.mem_cons] at z
  rcases z with z | z | z
  ·exact absurd (Heap.lt_size (F.at 0 rfl)) (by rw [← z]; exact Nat.lt_irrefl _)
  ·exact absurd (Heap.lt_size (F.at 1 rfl)) (by rw [← z]; exact Nat.lt_irrefl _)
  ·(refine x1_2 (List.mem_map.mp z) ?_; intro pp hp e)
   exact absurd (Heap.lt_size (F.nw pp (.tail _ (.tail _ hp))).1) (by rw [e]; exact Nat.lt_irrefl _)
 refine { F₂ with nw := fun pp hp => ?_, nd := ?_, cd := fun n cc e => ?_ }
 ·rcases List.mem_cons.mp hp with rfl | hp
  ·exact ⟨hT, fun z => absurd F.ns.lt (by rw [← z]; exact Nat.lt_irrefl _), hB, Nat.le_trans F.szL (Nat.le_of_lt F.ns.lt)⟩
  ·exact F₂.nw pp hp
 ·exact List.nodup_cons.mpr ⟨nm, F₂.nd⟩
 ·(refine x0_3 (F₂.cd n cc e) ?_; intro a b c'')
  refine ⟨a, fun z => ?_, c''⟩
  rcases List.mem_cons.mp z with z | z
  ·(refine x1_2 (F.ce n cc e) ?_; intro oc hoc _)
   exact absurd (Heap.lt_size hoc) (by rw [z]; exact Nat.lt_irrefl _)
  ·exact b z
theorem zgz {p : Int} {T : Addr} {item : Value} {oT : Obj} {elts : List Expr} {k : Nat} {pos : Pos} {Q : Unit → Shared → Prop} {Er : Value → Shared → Prop} (F : Fm w B L cl s₀ m cm ((T, oT) :: (E, enumP S p item T) :: more) ⟨h, g, d₀, tk₀, os⟩)
  (q : ∀ h', Fm w B L cl s₀ m cm ((T, oT) :: (E, enumO S p item) :: more) ⟨h', g, d, tk, os⟩ → Q () ⟨h', g, d, tk, os⟩) : wpAny (M w) A (letOwnedTupleGo (.Tuple elts k pos) (.ref E) (.ref T)) Q Er ⟨h, g, d, tk, os⟩ :=
 wpAny_letOwnedTupleGo_enum (s := ⟨h, g, d, tk, os⟩) (F.at 1 rfl) fun h' he' hs' => q h' (F.set1 (i := 1) rfl hs' he')
theorem zfL {it : Addr} {x : PySem.Str} {t : Tok} {i : Nat} {s : Shared} {Q : Value → Shared → Prop} {Er : Value → Shared → Prop} (hh : A.handled = none)
  (hit : s.heap.IsStrIter it "str_ascii_iterator" x t i) (hx : x.cps[i]? = none)
  (hE : ∀ h' e, Heap.ExtBut it s.heap h' → (∃ o, h'.get? it = some o) → (∃ o, h'.get? e = some o ∧ o.cls = .type "StopIteration") → Er (.ref e) { s with heap := h' }) :
  wpAny (M w) A (Builtin.SmallTypes.nextOf (.ref it)) Q Er s := by
 (refine x1_3 (id hit) ?_; intro o ho hc hd)
 unfold Builtin.SmallTypes.nextOf
 refine wpAny_bind (wpAny_callSpecial?_slot (name := Str.ofString "__next__") hit.typeIs PySem.F.slot_str_ascii_iterator_next
  (wpAny_call_entry PySem.F.slot_str_ascii_iterator_next hit.typeIs PySem.F.entry_str_ascii_iterator_next ?_ (PySem.F.args_str_ascii_iterator_next_1 _)))
 show wpAny _ _ (field (.ref it) 0 >>= _) _ _ s
 refine wpAny_bind (wpAny_field ho hd (x := .str x t) rfl ?_)
 show wpAny _ _ (field (.ref it) 1 >>= _) _ _ s
 refine wpAny_bind (wpAny_field ho hd (x := .int i 0) rfl ?_)
 simp only [Int.toNat_natCast, hx]
 refine wpAny_bind (wpAny_rule (wpAny_bind (wpAny_setField ho hd (by simp) (wpAny_bind (wpAny_letGo ?_)))))
 show wpAny _ _ (newExc (.type "StopIteration") [] >>= _) _ _ _
 refine wpAny_bind ?_
 simp only [newExc, newTuple]
 refine wpAny_bind (wpAny_newObj_type ?_ (by size_fits))
 refine wpAny_bind (m := firstArgMember _ _) (wpAny_of_eq (a := Value.none) (by first | rfl | (simp only [firstArgMember]; rfl)) ?_)
 refine wpAny_newObj_type ?_ (by size_fits)
 simp only [raiseNew]
 refine wpAny_bind (wpAny_handled ?_)
 first | rw [show A.in1.handled = none from hh] | rw [hh]
 refine wpAny_bind (wpAny_pure (wpAny_throw ?_))
 refine hE _ _ (((Heap.SameBut.update ..).extBut.push _).push _) ⟨_, Heap.get?_push_of_some _ (Heap.get?_push_of_some _ (Heap.get?_update_self _ ho (Obj.isFreed_of_fields (Obj.data_mapFields hd _))))⟩ ⟨_, Heap.get?_push_size _ rfl, rfl⟩
theorem zhH {x : PySem.Str} {tx : Tok} {p : Nat} {old : Value} {Q : Option Value → Shared → Prop} {Er : Value → Shared → Prop} (F : Fm w B L cl s₀ m cm ((E, enumO S p old) :: (S, oS) :: more) ⟨h, g, d₀, tk₀, os⟩) (hh : A.handled = none) (ho : SiO x tx p oS) (hc : x.cps.size = p)
  (q : ∀ h' oS', Fm w B L cl s₀ m cm ((E, enumO S p old) :: (S, oS') :: more) ⟨h', g, d, tk, os⟩ → Q none ⟨h', g, d, tk, os⟩) : wpAny (M w) A (pyNext (.ref E)) Q Er ⟨h, g, d, tk, os⟩ := by
 have he : IsEnum h E S (p : Nat) old := F.at 0 rfl
 have hES : E ≠ S := F.ne (i := 0) (j := 1) rfl rfl (by decide)
 have hT : (⟨h, g, d, tk, os⟩ : Shared).TypeIs (.ref E) "enumerate" := ⟨_, he, rfl⟩
 unfold pyNext
 refine wpAny_bind (wpAny_attempt (wpAny_callSpecial?_slot (name := Str.ofString "__next__") hT PySem.F.slot_enumerate_next
  (wpAny_call_entry PySem.F.slot_enumerate_next hT PySem.F.entry_enumerate_next ?_ (PySem.F.args_enumerate_next_1 _))))
 show wpAny _ _ (field (.ref E) 2 >>= _) _ _ _
 refine wpAny_bind (wpAny_field he rfl (x := .ref S) rfl ?_)
 refine wpAny_bind (zfL (s := ⟨h, g, d, tk, os⟩) (A := A.in1) hh ⟨oS, F.at 1 rfl, ho⟩ (by rw [← hc]; simp) fun h' xx he' hx2 hx' => ?_)
 (refine x1_2 (hx') ?_; try clear hx'; intro o ho' hc')
 obtain ⟨oS', hS'⟩ := hx2
 refine wpAny_bind (wpAny_isInstance (T := "StopIteration") (b := true) ⟨o, ho', hc'⟩ isSubtype_stop ?_)
 refine wpAny_pure (q _ oS' (Fm.set2 F (fun b ob h1 h2 e => he' b ob h2 e) (he' _ _ hES he) hS'))
end
noncomputable def NsO (o : Obj) (m : PySem.Str → Option Value) : Prop := ∃ es ep, o.data = .dict es ep ∧ StrKeys es ∧ ∀ name, nsFind es name = m name
theorem ns_of {h : Heap} {a : Addr} {m : PySem.Str → Option Value} (x : h.Ns a m) : ∃ o, h.get? a = some o ∧ NsO o m := by
 obtain ⟨o, es, ep, e, r⟩ := x
 exact ⟨o, e, es, ep, r⟩
theorem NsO.at {h : Heap} {a : Addr} {o : Obj} {m : PySem.Str → Option Value} (x : NsO o m) (e : h.get? a = some o) : h.Ns a m := let ⟨es, ep, r⟩ := x; ⟨o, es, ep, e, r⟩
noncomputable abbrev Bg (Lg E S : Addr) (h : Heap) : Heap := hideAll h [T1, T2, Lg, E, S]
section
variable {w : World} {B : Heap} {L Lg E S I : Addr} {m mG : PySem.Str → Option Value} {cm : PySem.Str → Option Value} {rest news own own' : List (Addr × Obj)} {s₀ s s₁ : Shared} {oL oL' oI : Obj}
theorem Fm.toGen (F : Fm w B L [] s₀ m cm news s) (hm : (Lg, oL) ∈ news) (hN : NsO oL mG) (hE : B.get? E = none) (hS : B.get? S = none) (hown : ∀ p ∈ own, p ∈ news ∧ (p.1 = E ∨ p.1 = S) ∧ p.1 ≠ Lg) (hnd : (own.map (·.1)).Nodup) :
  Fm w (Bg Lg E S s.heap) Lg [] s mG (fun _ => none) own s := by
 (refine x0_4 (F.nw _ hm) ?_; intro a1 a2 a3 a4)
 have kB : ∀ b o, B.get? b = some o → (Bg Lg E S s.heap).get? b = some o := fun b o e => by
  refine hideAll_get _ (F.keep b o e) fun q => ?_
  simp only [List.mem_cons, List.not_mem_nil, or_false] at q
  rcases q with q | q | q | q | q
  ·rw [q, F.wf.t1] at e; cases e
  ·rw [q, F.wf.t2] at e; cases e
  ·rw [q, a3] at e; cases e
  ·rw [q, hE] at e; cases e
  ·rw [q, hS] at e; cases e
 exact {
  wf := { k := fun a o e => kB a o (F.wf.k a o e), g := F.wf.g.elim fun mg h => ⟨mg, h.keeps kB⟩, b := F.wf.b.elim fun mb h => ⟨mb, h.1.keeps kB, h.2⟩, nl := F.wf.nl.keeps kB,
          bm := by
           obtain ⟨mg, bm, ob, a, b, c, d, e⟩ := F.wf.bm
           exact ⟨mg, bm, ob, a.keeps kB, b, c, kB _ _ d, e⟩
          sz := by
           show szTop ≤ (hideAll s.heap _).objs.size
           rw [hideAll_size]; exact Nat.le_trans F.szL (Nat.le_of_lt F.ns.lt)
          t1 := hideAll_none _ (.head _), t2 := hideAll_none _ (.tail _ (.head _)) }
  ns := hN.at a1
  keep := fun b o e => of_hideAll _ e
  above := ⟨hideAll_none _ (.tail _ (.tail _ (.head _))), a4⟩
  nw := fun p hp => by
   (refine x0_3 (hown p hp) ?_; intro h1 h2 h3)
   (refine x0_4 (F.nw p h1) ?_; intro b1 b2 b3 b4)
   refine ⟨b1, h3, ?_, b4⟩
   rcases h2 with h2 | h2
   ·rw [h2]; exact hideAll_none _ (.tail _ (.tail _ (.tail _ (.head _))))
   ·rw [h2]; exact hideAll_none _ (.tail _ (.tail _ (.tail _ (.tail _ (.head _)))))
  nd := hnd
  ce := fun n c e => by cases e
  cd := fun n c e => by cases e
  cp := fun n n' c e => by cases e
  tb := F.tb
  rl := Rel.refl s }
theorem Fm.fromGen (F : Fm w B L [] s₀ m cm news s) (G : Fm w (Bg Lg E S s.heap) Lg [] s mG (fun _ => none) own s₁) (hperm : news.Perm ((Lg, oL) :: own' ++ rest)) (ho : ∀ p ∈ rest, p.1 ≠ E ∧ p.1 ≠ S) (hE : B.get? E = none) (hS : B.get? S = none) (hEL : E ≠ L) (hSL : S ≠ L) :
  ∃ oL', NsO oL' mG ∧ Fm w B L [] s₀ m cm ((Lg, oL') :: own ++ rest) s₁ := by
 have F := F.perm hperm
 have hm : (Lg, oL) ∈ (Lg, oL) :: own' ++ rest := .head _
 (refine x0_4 (F.nw _ hm) ?_; intro a1 a2 a3 a4)
 have hndF := F.nd
 rw [List.cons_append, List.map_cons, List.nodup_cons, List.map_append, List.nodup_append] at hndF
 (refine x1_2 (ns_of G.ns) ?_; intro oL' hL' hN')
 refine ⟨oL', hN', ?_⟩
 have big : ∀ b, szTop ≤ b → b ≠ Lg → b ≠ E → b ≠ S → b ∉ [T1, T2, Lg, E, S] := fun b hb h1 h2 h3 q => by
  simp only [List.mem_cons, List.not_mem_nil, or_false] at q
  rcases q with q | q | q | q | q
  ·exact tab_ne (.inl rfl) hb q
  ·exact tab_ne (.inr rfl) hb q
  ·exact h1 q
  ·exact h2 q
  ·exact h3 q
 have kB : ∀ b o, B.get? b = some o → (Bg Lg E S s.heap).get? b = some o := fun b o e => by
  refine hideAll_get _ (F.keep b o e) fun q => ?_
  simp only [List.mem_cons, List.not_mem_nil, or_false] at q
  rcases q with q | q | q | q | q
  ·rw [q, F.wf.t1] at e; cases e
  ·rw [q, F.wf.t2] at e; cases e
  ·rw [q, a3] at e; cases e
  ·rw [q, hE] at e; cases e
  ·rw [q, hS] at e; cases e
 have kr : ∀ p ∈ rest, (Bg Lg E S s.heap).get? p.1 = some p.2 := fun p hp => by
  (refine x0_4 (F.nw p (by simp [hp])) ?_; intro b1 b2 b3 b4)
  exact hideAll_get _ b1 (big _ b4 (fun q => hndF.1 (List.mem_append_right _ (List.mem_map.mpr ⟨p, hp, q⟩))) (ho p hp).1 (ho p hp).2)
 have nr : ∀ p ∈ own, p.1 ∉ rest.map (·.1) := fun p hp q => by
  (refine x1_2 (List.mem_map.mp q) ?_; intro r hr e)
  have := (G.nw p hp).2.2.1
  rw [← e, kr r hr] at this; cases this
 (refine x1_2 (ns_of F.ns) ?_; intro oF hF hNF)
 have kL : (Bg Lg E S s.heap).get? L = some oF := hideAll_get _ hF (big _ F.szL a2.symm hEL.symm hSL.symm)
 exact {
  wf := F.wf
  ns := hNF.at (G.keep _ _ kL)
  keep := fun b o e => G.keep b o (kB b o e)
  above := F.above
  nw := fun p hp => by
   rcases List.mem_cons.mp hp with rfl | hp
   ·exact ⟨hL', a2, a3, a4⟩
   ·rcases List.mem_append.mp hp with hp | hp
    ·(refine x0_4 (G.nw p hp) ?_; intro b1 b2 b3 b4)
     refine ⟨b1, fun q => ?_, ?_, b4⟩
     ·rw [q, kL] at b3; cases b3
     ·cases q : B.get? p.1 with
      | none => rfl
      | some o => rw [kB _ _ q] at b3; cases b3
    ·(refine x0_4 (F.nw p (by simp [hp])) ?_; intro b1 b2 b3 b4)
     exact ⟨G.keep _ _ (kr p hp), b2, b3, b4⟩
  nd := by
   rw [List.cons_append, List.map_cons, List.nodup_cons, List.map_append, List.nodup_append]
   refine ⟨fun q => ?_, G.nd, hndF.2.2.1, fun x hx y hy e => ?_⟩
   ·rcases List.mem_append.mp q with q | q
    ·(refine x1_2 (List.mem_map.mp q) ?_; intro r hr e)
     exact (G.nw r hr).2.1 e
    ·exact hndF.1 (List.mem_append_right _ q)
   ·(refine x1_2 (List.mem_map.mp hx) ?_; intro r hr e')
    exact nr r hr (by rw [e', e]; exact hy)
  ce := fun n c e => by cases e
  cd := fun n c e => by cases e
  cp := fun n n' c e => by cases e
  tb := G.tb
  rl := F.rl.trans G.rl }
theorem Fm.gset (F : Fm w B L [] s₀ m cm news s) {g : Nat} (hg : s₀.gens.size ≤ g) {x : GenState} (hx : x.bare = true) : Fm w B L [] s₀ m cm news (s.setGen g x) := by
 refine { F with rl := ⟨F.rl.os, fun k y e => ?_, fun hb => ?_, F.rl.tg, trivial⟩ }
 ·have hk : k < s₀.gens.size := (Array.getElem?_eq_some_iff.mp e).1
  have := F.rl.gens k y e
  have h2 := (GenOnly.setGen s g x).2 k (by ktn_no "om")
  rw [h2]; exact this
 ·refine GenOnlyQ.bare (.inr ⟨GenOnly.setGen s g x, fun z hz => ?_⟩) (F.rl.bare hb)
  simp only [Shared.setGen, Array.getElem?_setIfInBounds] at hz
  split at hz
  ·split at hz
   ·cases hz; exact hx
   ·cases hz
  ·rename_i q; exact absurd trivial q
theorem Fm.rebase (F : Fm w B L [] s₀ m cm news s) : Fm w B L [] s m cm news s := { F with rl := Rel.refl s }
theorem Fm.unbase (F : Fm w B L [] s m cm news s₁) (r : Rel s₀ s) : Fm w B L [] s₀ m cm news s₁ := { F with rl := r.trans F.rl }
end
noncomputable def forParts : Stmt → Expr × Expr × List Stmt × List Stmt × Pos
 | .For t i b o p => (t, i, b, o, p)
 | _ => (default, default, [], [], default)
noncomputable abbrev itFor : Stmt := body_iter_escaped_chars.getD 2 default
noncomputable abbrev itT : Expr := (forParts itFor).1
noncomputable abbrev itB : List Stmt := (forParts itFor).2.2.1
noncomputable abbrev itIf : Stmt := body_iter_escaped_chars.getD 3 default
noncomputable abbrev gEnv (Lg : Addr) : Env := callEnv fd_iter_escaped_chars Lg a_iter_escaped_chars
noncomputable abbrev noC : PySem.Str → Option Value := fun _ => none
noncomputable def PG (w : World) (Lg E S : Addr) : Nat → Shared → Shared → Prop := fun n s₀ s₁ => n = 0 ∧ ∃ mG oE oS, Fm w (Bg Lg E S s₀.heap) Lg [] s₀ mG noC [(E, oE), (S, oS)] s₁
noncomputable abbrev RG (w : World) (Lg E S : Addr) : GenEnd := fun n s₀ r s₁ => r = .ok (.ret .none) ∧ PG w Lg E S n s₀ s₁
noncomputable def YG (w : World) (Lg E S : Addr) (U : List (Nat × PySem.Str)) : Protocol := fun n s₀ v s₁ kap => ∃ mG oE oS q a b t1 t2, U[U.length - 1 - n]? = some (a, b) ∧ v = .ref q ∧
 Fm w (Bg Lg E S s₀.heap) Lg [] s₀ mG noC [(q, tupO [.int (a : Nat) t1, .str b t2]), (E, oE), (S, oS)] s₁ ∧
 ∀ s'', Fm w (Bg Lg E S s''.heap) Lg [] s'' mG noC [(E, oE), (S, oS)] s'' → kap (.send .none) s''
section
variable {w : World} {A : Around} {Lg E S : Addr} {x : PySem.Str} {tx : Tok} {U : List (Nat × PySem.Str)}
theorem U_get {pre : List (Nat × PySem.Str)} {y : Nat × PySem.Str} {r : List (Nat × PySem.Str)} (h : U = pre ++ y :: r) : U[U.length - 1 - r.length]? = some y := by
 subst h
 have : (pre ++ y :: r).length - 1 - r.length = pre.length := by simp
 rw [this]; simp
theorem U_next {pre : List (Nat × PySem.Str)} {y : Nat × PySem.Str} {r : List (Nat × PySem.Str)} (h : U = pre ++ y :: r) : U = (pre ++ [y]) ++ r := by rw [h]; simp
noncomputable def Left (x : PySem.Str) (p : Nat) (r : List Nat) : Prop := x.cps.toList.drop p = r ∧ (x.cps.size = p + r.length)
theorem zgj {p c : Nat} {r : List Nat} (h : Left x p (c :: r)) : x.cps[p]? = some c ∧ Left x (p + 1) r := by
 obtain ⟨h1, h2⟩ := h
 refine ⟨?_, ?_, by simp at h2; ktn_no "o4"⟩
 ·have : x.cps.toList[p]? = some c := by
   have := congrArg (fun l => l[0]?) h1
   simpa using this
  simpa using this
 ·rw [← List.drop_drop, h1]; rfl
theorem zg5 {p0 : Pos} {kf : Result → Sem PySem.Fin} (hA : ∀ c k c' p, (A.over c [.ret k none false [] c' p []]).handled = none)
  (hend : ∀ (e : Bool) (last : Nat) (s₀ s : Shared) (mG : PySem.Str → Option Value) (tl : Tok) (c : Code) (pre : List (Nat × PySem.Str)) (oE oS : Obj), Fm w (Bg Lg E S s₀.heap) Lg [] s₀ mG noC [(E, oE), (S, oS)] s → mG "escape" = some (.bool e) → mG "pos" = some (.int (last : Nat) tl) → U = pre ++ esc [] 0 e last →
   Seg (M w) A (RG w Lg E S) (YG w Lg E S U) (esc [] 0 e last).length s₀ c (leafOf (.ok .next)) [.ret kf none false [] (.func body_iter_escaped_chars (gEnv Lg)) p0 []] s) :
  ∀ (r : List Nat) (p : Nat) (e : Bool) (last : Nat) (s₀ s : Shared) (mG : PySem.Str → Option Value) (old : Value) (oS : Obj) (tl : Tok) (pre : List (Nat × PySem.Str)), Left x p r → Fm w (Bg Lg E S s₀.heap) Lg [] s₀ mG noC [(E, enumO S p old), (S, oS)] s → SiO x tx p oS →
   mG "escape" = some (.bool e) → mG "pos" = some (.int (last : Nat) tl) → U = pre ++ esc r p e last →
   Seg (M w) A (RG w Lg E S) (YG w Lg E S U) (esc r p e last).length s₀ (.forLoop itT (.ref E) itB [] (gEnv Lg)) ((M w).den (.forLoop itT (.ref E) itB [] (gEnv Lg))) [.ret kf none false [] (.func body_iter_escaped_chars (gEnv Lg)) p0 []] s := by
 intro r
 induction r with
 | nil =>
  intro p e last s₀ s mG old oS tl pre hr F ho he hp hU
  obtain ⟨h, g, d, tk, os⟩ := s
  refine zb6 ?_
  have hsz : x.cps.size = p := hr.2
  refine zhH F (hA _ _ _ _) ho hsz fun h' oS' F' => ?_
  exact hend e last s₀ _ mG tl _ pre _ _ F' he hp hU
 | cons c r ih =>
  intro p e last s₀ s mG old oS tl pre hr F ho he hp hU
  obtain ⟨h, g, d, tk, os⟩ := s
  refine zb6 ?_
  obtain ⟨hc, hr'⟩ := zgj hr
  refine zf9 F (hA _ _ _ _) ho hc fun h₁ k₁ t1 t2 oS₁ ho₁ F₁ => ?_
  dsimp only
  refine zgz F₁ fun h₂ F₂ => ?_
  refine zao F₂ (hA _ _ _ _) (F₂.at 0 rfl) rfl (by kernel_rfl) (by kernel_rfl) (by kernel_rfl) fun h₃ k₃ F₃ => ?_
  have F₄ := F₃.drop 1
  dsimp only [List.drop] at F₄
  clear F F₁ F₂ F₃
  ktn_no "ast_seg"
  refine seg_execs_cons (seg_If ?_)
  ktn_no "x"
  cases e with
  | true =>
   have eU : esc (c :: r) p true last = (p, ⟨#[92, c]⟩) :: esc r (p + 1) false p := rfl
   rw [eU] at hU ⊢
   (ktn_no "iP"; exact rfl)
   refine seg_execs_cons (seg_Expr_Yield rfl rfl rfl ?_)
   ktn_no "x"
   refine add_str (fun t' k' => ?_) (by show (1 : Nat) + 1 ≤ sizeLine; decide)
   ktn_no "x"
   refine zae (by simp) ?_
   intro kap hk
   have F₅ := F₄.push1 (d := d) (tk := k') (tupO [.int (p : Nat) t1, .str (Str.ofString "\\" ++ ⟨#[c]⟩) t'])
   refine ⟨_, _, _, _, p, ⟨#[92, c]⟩, t1, t', U_get hU, rfl, F₅, fun s'' F₆ => hk _ _ ?_⟩
   dsimp only
   obtain ⟨h₆, g₆, d₆, k₆, o₆⟩ := s''
   refine zbp ?_
   ktn_no "x"
   rename_i h₇ F₇
   refine seg_execs_nil (seg_execs_nil (seg_again rfl ?_))
   exact ih (p + 1) false p _ _ _ _ _ _ _ hr' F₇ ho₁ (by ktn_no "k_val") (by ktn_no "k_val") (U_next hU)
  | false =>
   (ktn_no "iN"; exact (by decide))
   refine seg_execs_cons (seg_If ?_)
   ktn_no "x"
   refine eq_str ?_
   ktn_no "x"
   by_cases hcc : c = 92
   ·subst hcc
    have eU : esc (92 :: r) p false last = esc r (p + 1) true p := by simp [esc]
    rw [eU] at hU ⊢
    (ktn_no "iP"; exact (by decide))
    refine zbp ?_
    ktn_no "x"
    rename_i h₇ F₇
    refine seg_execs_nil (seg_execs_nil (seg_execs_nil (seg_again rfl ?_)))
    exact ih (p + 1) true p _ _ _ _ _ _ _ hr' F₇ ho₁ (by ktn_no "k_val") (by ktn_no "k_val") hU
   ·have eU : esc (c :: r) p false last = (p, ⟨#[c]⟩) :: esc r (p + 1) false p := by simp [esc, hcc]
    rw [eU] at hU ⊢
    (ktn_no "iN"; exact (by intro z; have z := eq_of_beq z; rw [show (Str.ofString "\\" : PySem.Str) = ⟨#[92]⟩ by decide] at z; exact hcc (by simpa using z)))
    refine seg_execs_cons (seg_Expr_Yield rfl rfl rfl ?_)
    ktn_no "x"
    refine zae (by simp) ?_
    intro kap hk
    have F₅ := F₄.push1 (d := d) (tk := k₃ + 1) (tupO [.int (p : Nat) t1, .str ⟨#[c]⟩ t2])
    refine ⟨_, _, _, _, p, ⟨#[c]⟩, t1, t2, U_get hU, rfl, F₅, fun s'' F₆ => hk _ _ ?_⟩
    dsimp only
    obtain ⟨h₆, g₆, d₆, k₆, o₆⟩ := s''
    refine seg_execs_nil (seg_execs_nil (seg_execs_nil (seg_again rfl ?_)))
    exact ih (p + 1) false p _ _ _ _ _ _ _ hr' F₆ ho₁ (by ktn_no "k_val") (by ktn_no "k_val") (U_next hU)
end
section
variable {w : World} {B : Heap} {L : Addr} {m : PySem.Str → Option Value} {cl : List (PySem.Str × Addr)} {cm : PySem.Str → Option Value} {more : List (Addr × Obj)} {s₀ s : Shared} {A : Around} {E : Value → Shared → Prop}
 {h : Heap} {g g₀ : Array GenState} {d d₀ : Drawn} {tk tk₀ : Nat} {os os₀ : OsState} {env : Env} {x : PySem.Str} {v : Value}
theorem st_Lz {Q : Unit → Shared → Prop} (F : Fm w B L cl s₀ m cm more ⟨h, g, d₀, tk₀, os⟩) (hk : env.scope.kind = .function) (hx : env.kindOf x = some .local) (hL : env.locals = L)
  (q : ∀ h', h'.objs.size = h.objs.size → Fm w B L cl s₀ (upd m x v) cm more ⟨h', g, d, tk + 1, os⟩ → Q () ⟨h', g, d, tk + 1, os⟩) : wpAny (M w) A (storeName env x v) Q E ⟨h, g, d, tk, os⟩ := by
 subst hL
 exact wpAny_storeName_local hx F.ns (fun h' hn hs => q h' hs.1 (Fm.store (s := ⟨h, g, d, tk, os⟩) (F.withD (d := d) (tk := tk)) hn hs)) (by rw [hk]; rfl)
theorem Fm.add {a : Addr} {o : Obj} (F : Fm w B L [] s₀ m cm more s) (hx : s.heap.get? a = some o) (h1 : a ≠ L) (h2 : B.get? a = none) (h3 : szTop ≤ a) (h4 : a ∉ more.map (·.1)) : Fm w B L [] s₀ m cm ((a, o) :: more) s :=
 { F with
  nw := fun p hp => by
   rcases List.mem_cons.mp hp with rfl | hp
   ·exact ⟨hx, h1, h2, h3⟩
   ·exact F.nw p hp
  nd := List.nodup_cons.mpr ⟨h4, F.nd⟩
  ce := fun n c e => by cases e
  cd := fun n c e => by cases e }
theorem Fm.fresh {a : Addr} (F : Fm w B L [] s₀ m cm more s) (ha : s.heap.objs.size ≤ a) : a ≠ L ∧ B.get? a = none ∧ szTop ≤ a ∧ a ∉ more.map (·.1) := by
 refine ⟨fun e => absurd F.ns.lt (by rw [← e]; exact Nat.not_lt.mpr ha), ?_, Nat.le_trans (Nat.le_trans F.szL (Nat.le_of_lt F.ns.lt)) ha, fun q => ?_⟩
 ·cases q : B.get? a with
  | none => rfl
  | some o => exact absurd (Heap.lt_size (F.keep _ _ q)) (Nat.not_lt.mpr ha)
 ·(refine x1_2 (List.mem_map.mp q) ?_; intro p hp e)
  exact absurd (Heap.lt_size (F.nw p hp).1) (by rw [e]; exact Nat.not_lt.mpr ha)
theorem zgJ {tx : Tok} {Q : Value → Shared → Prop} (F : Fm w B L [] s₀ m cm more ⟨h, g, d₀, tk₀, os⟩) (ha : x.cps.all (· < 128) = true)
  (q : ∀ h' oS, SiO x tx 0 oS → Fm w B L [] s₀ m cm ((h.objs.size + 1, enumO h.objs.size ((0 : Nat) : Int) .none) :: (h.objs.size, oS) :: more) ⟨h', g, d, tk, os⟩ → Q (.ref (h.objs.size + 1)) ⟨h', g, d, tk, os⟩) :
  wpAny (M w) A (call (.type "enumerate") [.str x tx]) Q E ⟨h, g, d, tk, os⟩ := by
 refine call_enumerate_str (s := ⟨h, g, d, tk, os⟩) fun h' hE hS hz hk => ?_
 (refine x1_2 (hS) ?_; try clear hS; intro oS hS1 hS2)
 have hty : strIterType x = "str_ascii_iterator" := by simp [strIterType, ha]
 rw [hty] at hS2
 have F₁ := Fm.keepAll (d := d) (tk := tk) F hk
 (refine x0_4 (Fm.fresh (a := h.objs.size) F (Nat.le_refl _)) ?_; intro a1 a2 a3 a4)
 (refine x0_4 (Fm.fresh (a := h.objs.size + 1) F (Nat.le_succ _)) ?_; intro b1 b2 b3 b4)
 have F₂ := Fm.add F₁ hS1 a1 a2 a3 a4
 refine q h' oS hS2 (Fm.add F₂ hE b1 b2 b3 ?_)
 rw [List.map_cons, List.mem_cons, not_or]
 exact ⟨Nat.succ_ne_self _, b4⟩
end
section
variable {w : World} {A : Around} {Lg E S : Addr} {x : PySem.Str} {tx : Tok} {U : List (Nat × PySem.Str)}
theorem zfH (hA : ∀ c k c' p, (A.over c [.ret k none false [] c' p []]).handled = none) {h : Heap} {g : Array GenState} {d : Drawn} {tk : Nat} {os : OsState} {mG : PySem.Str → Option Value} (ha : x.cps.all (· < 128) = true) (hm : mG "addr" = some (.str x tx)) (hE : E = h.objs.size + 1) (hS : S = h.objs.size)
  (F : Fm w (Bg Lg E S h) Lg [] ⟨h, g, d, tk, os⟩ mG noC [] ⟨h, g, d, tk, os⟩) :
  Seg (M w) A (RG w Lg E S) (YG w Lg E S (units x)) (units x).length ⟨h, g, d, tk, os⟩ (.func body_iter_escaped_chars (gEnv Lg)) ((M w).den (.func body_iter_escaped_chars (gEnv Lg))) [] ⟨h, g, d, tk, os⟩ := by
 refine seg_func ?_
 ktn_no "ast_seg"
 refine zbp (wpAny_Assign_Name (wpAny_Constant_int ?_) (by kernel_rfl))
 refine st_Lz F (by kernel_rfl) (by kernel_rfl!) (by kernel_rfl) fun h₁ hz₁ F₁ => ?_
 dsimp only
 refine zbp (wpAny_Assign_Name (Constant_bool ?_) (by kernel_rfl))
 refine st_Lz F₁ (by kernel_rfl) (by kernel_rfl!) (by kernel_rfl) fun h₂ hz₂ F₂ => ?_
 dsimp only
 refine seg_execs_cons (seg_For (fun x => rfl) ?_)
 ktn_no "x"
 refine zgJ F₂ ha fun h₃ oS hoS F₃ => ?_
 rw [hz₂, hz₁, ← hE, ← hS] at F₃
 rw [hz₂, hz₁, ← hE]
 refine wpAny_pyIter_enum (F₃.at 0 rfl) fun p0 => ?_
 refine zg5 hA ?_ x.cps.toList 0 false 0 _ _ _ _ _ _ [] ⟨rfl, by simp⟩ F₃ hoS (by ktn_no "k_val") (by ktn_no "k_val") rfl
 intro e last s₀ s mG' tl c pre oE' oS' F' he hp hU
 refine seg_leaf (.ok .next) ?_
 obtain ⟨h', g', d', k', o'⟩ := s
 show Seg _ _ _ _ _ _ _ (Sem.wrap (fun f => Sem.pure (Fin.done (Flow.ret (match f with | .ret v => v | _ => Value.none)))) (fun e => Sem.wrap (fun _ => Sem.raise e) Sem.raise id id (leaving (gEnv Lg) e)) id id (execs [itIf] (gEnv Lg))) _ _
 ktn_no "ast_seg"
 refine seg_execs_cons (seg_If ?_)
 ktn_no "x"
 cases e with
 | true =>
  (ktn_no "iP"; exact rfl)
  show Seg (M w) A (RG w Lg E S) (YG w Lg E S (units x)) 1 _ _ _ _ _
  refine seg_execs_cons (seg_Expr_Yield rfl rfl rfl ?_)
  ktn_no "x"
  refine zae (by simp) ?_
  intro kap hk
  have F₅ := F'.push1 (d := d') (tk := k' + 1) (tupO [.int (last : Nat) tl, .str (Str.ofString "\\") k'])
  refine ⟨_, _, _, _, last, ⟨#[92]⟩, tl, k', U_get (r := []) hU, rfl, F₅, fun s'' F₆ => hk _ _ ?_⟩
  exact seg_execs_nil (seg_execs_nil (seg_end (.ok (.ret .none)) ⟨rfl, rfl, _, _, _, F₆⟩))
 | false =>
  (ktn_no "iN"; exact (by decide))
  exact seg_execs_nil (seg_execs_nil (seg_end (.ok (.ret .none)) ⟨rfl, rfl, _, _, _, F'⟩))
end
noncomputable def GenO (o : Obj) (g : Nat) : Prop := ∃ nm qn, o.cls = .type "generator" ∧ o.data = .fields #[.int g 0, nm, qn] ∧ o.slots = #[]
inductive GenSt (w : World) (A : Around) : List (Nat × PySem.Str) → Addr → Nat → List (Addr × Obj) → GenState → Prop
 | fresh {x : PySem.Str} {tx : Tok} {I Lg : Addr} {g : Nat} {oI oL : Obj} {mG : PySem.Str → Option Value} : GenO oI g → NsO oL mG → mG "addr" = some (.str x tx) → x.cps.all (· < 128) = true → GenSt w A (units x) I g [(I, oI), (Lg, oL)] (.fresh (.func body_iter_escaped_chars (gEnv Lg)))
 | susp {us U pre : List (Nat × PySem.Str)} {I Lg E S : Addr} {g : Nat} {oI oL oE oS : Obj} {mG : PySem.Str → Option Value} {gs : GenState} : GenO oI g → NsO oL mG → U = pre ++ us →
   (∀ s'', Fm w (Bg Lg E S s''.heap) Lg [] s'' mG noC [(E, oE), (S, oS)] s'' → gs.Goes (M w) A.in1 (RG w Lg E S) (YG w Lg E S U) us.length (.send .none) s'') → GenSt w A us I g [(I, oI), (Lg, oL), (E, oE), (S, oS)] gs
section
variable {w : World} {B : Heap} {L I : Addr} {m : PySem.Str → Option Value} {cm : PySem.Str → Option Value} {own rest : List (Addr × Obj)} {s₀ s : Shared} {A : Around} {E : Value → Shared → Prop} {g n : Nat} {gs : GenState} {us : List (Nat × PySem.Str)} {Q : Option Value → Shared → Prop}
noncomputable def GenQ (w : World) (B : Heap) (L : Addr) (m : PySem.Str → Option Value) (cm : PySem.Str → Option Value) (rest : List (Addr × Obj)) (s₀ : Shared) (A : Around) (I : Addr) (g : Nat) (Q : Option Value → Shared → Prop) : List (Nat × PySem.Str) → Prop
 | [] => ∀ s', Fm w B L [] s₀ m cm rest s' → Q none s'
 | (a, b) :: us' => ∀ T t1 t2 own' gs' s', GenSt w A us' I g own' gs' → Fm w B L [] s₀ m cm ((T, tupO [.int (a : Nat) t1, .str b t2]) :: own' ++ rest) s' → s'.gens[g]? = some gs' → Q (some (.ref T)) s'
variable {Lg e S : Addr} {oI oL : Obj} {mG : PySem.Str → Option Value} {U pre : List (Nat × PySem.Str)} {own0 : List (Addr × Obj)}
theorem zcr {v : Value} {s₁ : Shared} {gs' : GenState} (F : Fm w B L [] s₀ m cm ((Lg, oL) :: own0 ++ ((I, oI) :: rest)) (s.setGen g .running)) (hI : GenO oI g) (hg : s.gens[g]? = some gs) (hs₀ : s₀.gens.size ≤ g) (hE : B.get? e = none) (hS : B.get? S = none) (hEL : e ≠ L) (hSL : S ≠ L)
  (hr : ∀ p ∈ (I, oI) :: rest, p.1 ≠ e ∧ p.1 ≠ S) (hU : U = pre ++ us) (hb : gs'.bare = true)
  (hY : YG w Lg e S U (us.length - 1) (s.setGen g .running) v s₁ (fun r' s'' => match us.length with | 0 => False | k + 1 => gs'.Goes (M w) A.in1 (RG w Lg e S) (YG w Lg e S U) k r' s''))
  (q : GenQ w B L m cm rest s₀ A I g Q us) : Q (some v) (s₁.setGen g gs') := by
 (refine x8_4 (hY) ?_; try clear hY; intro mG' oE oS qT a b t1 t2 hget eqX9 G hk; subst eqX9)
 (refine x1_2 (Fm.fromGen F G (.refl _) hr hE hS hEL hSL) ?_; intro oL' hN' F₁)
 have hrun : s₁.gens[g]? = some .running := G.rl.gens _ _ (setGen_self hg)
 have F₂ := Fm.gset F₁ hs₀ hb
 have hg' := setGen_self (x := gs') hrun
 have hndG := G.nd
 simp only [List.map_cons, List.nodup_cons, List.mem_cons, not_or, List.map_nil, List.not_mem_nil, not_false_eq_true, and_true, List.nodup_nil] at hndG
 subst hU
 cases us with
 | nil =>
  refine (hk s₁ (Fm.toGen (oL := oL') F₁ (.head _) hN' hE hS (fun p hp => ?_) ?_)).elim
  ·simp only [List.mem_cons, List.not_mem_nil, or_false] at hp
   rcases hp with rfl | rfl
   ·exact ⟨by simp, .inl rfl, (G.nw (e, oE) (by simp)).2.1⟩
   ·exact ⟨by simp, .inr rfl, (G.nw (S, oS) (by simp)).2.1⟩
  ·simp only [List.map_cons, List.map_nil, List.nodup_cons, List.mem_cons, List.not_mem_nil, or_false, not_false_eq_true, and_true, List.nodup_nil]
   exact hndG.2
 | cons y us' =>
  obtain ⟨a', b'⟩ := y
  have := U_get (U := pre ++ (a', b') :: us') (pre := pre) (y := (a', b')) (r := us') rfl
  simp only [List.length_cons, Nat.add_sub_cancel] at hget hk
  rw [this] at hget
  cases hget
  refine q qT t1 t2 _ _ _ (GenSt.susp (oE := oE) (oS := oS) (pre := pre ++ [(a, b)]) hI hN' (by simp) hk) (F₂.perm ?_) hg'
  simp only [List.cons_append, List.nil_append]; ktn_no "perm_tac"
theorem zev {s₁ : Shared} {h' : Heap} (F : Fm w B L [] s₀ m cm ((Lg, oL) :: own0 ++ ((I, oI) :: rest)) (s.setGen g .running)) (hs₀ : s₀.gens.size ≤ g) (hE : B.get? e = none) (hS : B.get? S = none) (hEL : e ≠ L) (hSL : S ≠ L)
  (hr : ∀ p ∈ (I, oI) :: rest, p.1 ≠ e ∧ p.1 ≠ S) {n : Nat} (hP : PG w Lg e S n (s.setGen g .running) s₁) (hk : ∀ b o, s₁.heap.get? b = some o → h'.get? b = some o) :
  Fm w B L [] s₀ m cm rest { s₁.setGen g .finished with heap := h' } := by
 (refine y3_1 (hP) ?_; try clear hP; intro _ mG' oE oS G)
 (refine x1_2 (Fm.fromGen F G (.refl _) hr hE hS hEL hSL) ?_; intro oL' hN' F₁)
 have F₂ := Fm.gset F₁ hs₀ (x := .finished) rfl
 exact (Fm.keepAll (d := s₁.drawn) (tk := s₁.toks) F₂ hk).drop 4
theorem za5 (R : Room (n + 1) A) (F : Fm w B L [] s₀ m cm (own ++ rest) s) (hst : GenSt w A us I g own gs) (hg : s.gens[g]? = some gs) (hs₀ : s₀.gens.size ≤ g)
  (q : GenQ w B L m cm rest s₀ A I g Q us) : wpAny (M w) A (pyNext (.ref I)) Q E s := by
 have hA : ∀ c k c' p, (A.in1.over c [.ret k none false [] c' p []]).handled = none := fun c k c' p => by
  show (marksOver [.ret k none false [] c' p []] (A.handled, A.handled)).1 = none
  rw [R.handled]; rfl
 have Fr := F.gset hs₀ (x := .running) rfl
 cases hst with
 | @fresh x tx I Lg g oI oL mG hI hN hm ha =>
  have hI' := hI
  (refine x2_3 (hI') ?_; try clear hI'; intro nm qn c1 c2 c3)
  (refine x0_4 (Fm.fresh (a := s.heap.objs.size + 1) F (Nat.le_succ _)) ?_; intro e1 e2 e3 e4)
  (refine x0_4 (Fm.fresh (a := s.heap.objs.size) F (Nat.le_refl _)) ?_; intro f1 f2 f3 f4)
  have Ft : Fm w (Bg Lg (s.heap.objs.size + 1) s.heap.objs.size (s.setGen g .running).heap) Lg [] (s.setGen g .running) mG noC [] (s.setGen g .running) := Fr.toGen (.tail _ (.head _)) hN e2 f2 (fun p hp => by cases hp) List.nodup_nil
  have Fr' := Fr.perm (news' := (Lg, oL) :: [] ++ ((I, oI) :: rest)) (by simp only [List.cons_append, List.nil_append]; ktn_no "perm_tac")
  have hr : ∀ p ∈ (I, oI) :: rest, p.1 ≠ s.heap.objs.size + 1 ∧ p.1 ≠ s.heap.objs.size := fun p hp => by
   have hp' : p ∈ [(I, oI), (Lg, oL)] ++ rest := by
    rcases List.mem_cons.mp hp with rfl | hp
    ·exact .head _
    ·simp [hp]
   have := Heap.lt_size (F.nw p hp').1
   exact ⟨Nat.ne_of_lt (Nat.lt_succ_of_lt this), Nat.ne_of_lt this⟩
  refine zgY (Y := YG w Lg (s.heap.objs.size + 1) s.heap.objs.size (units x)) (P := PG w Lg (s.heap.objs.size + 1) s.heap.objs.size) (n := (units x).length) R.handled (F.wf.nl.keeps F.keep) R.lt ⟨oI, nm, qn, F.at 0 rfl, c1, c2, c3⟩ hg ⟨rfl, zfH hA ha hm rfl rfl Ft⟩ ?_ ?_
  ·intro v s₁ gs' hb hY
   exact zcr (pre := []) Fr' hI hg hs₀ e2 f2 e1 f1 hr rfl hb hY q
  ·intro s₁ hP h' hk
   have hz : units x = [] := List.length_eq_zero_iff.mp hP.1
   generalize units x = us at q hz
   subst hz
   exact q _ (zev Fr' hs₀ e2 f2 e1 f1 hr hP hk)
 | @susp us U pre I Lg e S g oI oL oE oS mG gs hI hN hU hgo =>
  have hI' := hI
  (refine x2_3 (hI') ?_; try clear hI'; intro nm qn c1 c2 c3)
  (refine x0_4 (F.nw (e, oE) (by simp)) ?_; intro _ e1 e2 e3)
  (refine x0_4 (F.nw (S, oS) (by simp)) ?_; intro _ f1 f2 f3)
  have hnd := F.nd
  simp only [List.cons_append, List.nil_append, List.map_cons, List.nodup_cons, List.mem_cons, not_or] at hnd
  have Ft : Fm w (Bg Lg e S (s.setGen g .running).heap) Lg [] (s.setGen g .running) mG noC [(e, oE), (S, oS)] (s.setGen g .running) := Fr.toGen (.tail _ (.head _)) hN e2 f2 (fun p hp => ?_) ?_
  have Fr' := Fr.perm (news' := (Lg, oL) :: [(e, oE), (S, oS)] ++ ((I, oI) :: rest)) (by simp only [List.cons_append, List.nil_append]; ktn_no "perm_tac")
  have hr : ∀ p ∈ (I, oI) :: rest, p.1 ≠ e ∧ p.1 ≠ S := fun p hp => by
   rcases List.mem_cons.mp hp with rfl | hp
   ·exact ⟨hnd.1.2.1, hnd.1.2.2.1⟩
   ·exact ⟨fun z => hnd.2.2.1.2 (List.mem_map.mpr ⟨p, hp, z⟩), fun z => hnd.2.2.2.1 (List.mem_map.mpr ⟨p, hp, z⟩)⟩
  refine zgY (Y := YG w Lg e S U) (P := PG w Lg e S) (n := us.length) R.handled (F.wf.nl.keeps F.keep) R.lt ⟨oI, nm, qn, F.at 0 rfl, c1, c2, c3⟩ hg (hgo _ Ft) ?_ ?_
  ·intro v s₁ gs' hb hY
   exact zcr Fr' hI hg hs₀ e2 f2 e1 f1 hr hU hb hY q
  ·intro s₁ hP h' hk
   have hz : us = [] := List.length_eq_zero_iff.mp hP.1
   subst hz
   exact q _ (zev Fr' hs₀ e2 f2 e1 f1 hr hP hk)
  ·simp only [List.mem_cons, List.not_mem_nil, or_false] at hp
   rcases hp with rfl | rfl
   ·exact ⟨by simp, .inl rfl, fun z => hnd.2.1.1 z.symm⟩
   ·exact ⟨by simp, .inr rfl, fun z => hnd.2.1.2.1 z.symm⟩
  ·simp only [List.map_cons, List.map_nil, List.nodup_cons, List.mem_cons, List.not_mem_nil, or_false, not_false_eq_true, and_true, List.nodup_nil]
   exact hnd.2.2.1.1
end
theorem Rel.gsize {s₀ s : Shared} (r : Rel s₀ s) : s₀.gens.size ≤ s.gens.size := by
 rcases Nat.lt_or_ge s.gens.size s₀.gens.size with z | z
 ·have := r.gens s.gens.size _ (Array.getElem?_eq_getElem z)
  rw [Array.getElem?_eq_none (Nat.le_refl _)] at this; cases this
 ·exact z
section
variable {w : World} {B : Heap} {L : Addr} {m : PySem.Str → Option Value} {cl : List (PySem.Str × Addr)} {cm : PySem.Str → Option Value} {rest : List (Addr × Obj)} {s₀ s : Shared} {A : Around} {E : Value → Shared → Prop} {n : Nat} {Q : Value → Shared → Prop} {x : PySem.Str} {tx : Tok} {h : Heap} {g : Array GenState} {d d₀ : Drawn} {tk tk₀ : Nat} {os : OsState}
theorem Fm.gpush (F : Fm w B L cl s₀ m cm rest ⟨h, g, d₀, tk₀, os⟩) {y : GenState} (hy : y.bare = true) : Fm w B L cl s₀ m cm rest ⟨h, g.push y, d, tk, os⟩ :=
 { F with rl := ⟨F.rl.os, fun k z e => by
   have := F.rl.gens k z e
   have hk : k < g.size := (Array.getElem?_eq_some_iff.mp this).1
   show (g.push y)[k]? = some z
   rw [Array.getElem?_push, if_neg (by ktn_no "om")]; exact this, fun hb z hz => by
   rcases Array.mem_push.mp hz with hz | rfl
   ·exact F.rl.bare hb z hz
   ·exact hy, F.rl.tg, trivial⟩ }
theorem zc4 (A' : Around) (R : Room (n + 2) A) (F : Fm w B L [] s₀ m cm rest s) (ha : x.cps.all (· < 128) = true)
  (q : ∀ I own gs s', GenSt w A' (units x) I s.gens.size own gs → Fm w B L [] s₀ m cm (own ++ rest) s' → s'.gens[s.gens.size]? = some gs → Q (.ref I) s') : wpAny (M w) A (call (.ref a_iter_escaped_chars) [.str x tx]) Q E s := by
 obtain ⟨h, g, d, tk, os⟩ := s
 have X := F.K
 refine wpAny_call (codeAny_call_generator (fd := fd_iter_escaped_chars) (body := body_iter_escaped_chars) R.lt (X _ _ (zaY _)) rfl rfl rfl rfl (codeRec_of X (zaQ _)) ?_)
 refine BindsTo.of_eq (binds := [("addr", Value.str x tx)]) rfl _ _ _ _ ?_
 refine wpAny_newFunctionEnv (by decide) (locs (by kernel_rfl)) (fun h' hn hs => ?_) rfl
 have hk : ∀ b o, h.get? b = some o → h'.get? b = some o := fun b o e => (hs.2 b (fun q => absurd (Heap.lt_size e) (by rw [q]; exact Nat.lt_irrefl _))).trans (Heap.get?_push_of_some _ e)
 have F₁ := Fm.keepAll (d := d) (tk := tk + 1) F hk
 (refine x1_2 (ns_of hn) ?_; intro oL hL hN)
 (refine x0_4 (Fm.fresh (a := h.objs.size) F (Nat.le_refl _)) ?_; intro a1 a2 a3 a4)
 have F₂ := Fm.add F₁ hL a1 a2 a3 a4
 have F₃ := F₂.push1 (g := g) (d := d) (tk := tk + 1 + 1 + 1) ⟨.type "generator", none, .fields #[.int g.size 0, .str fd_iter_escaped_chars.name (tk + 1), .str fd_iter_escaped_chars.qualname (tk + 1 + 1)], #[]⟩
 have F₄ := Fm.gpush (d := d) (tk := tk + 1 + 1 + 1) F₃ (y := .fresh (.func body_iter_escaped_chars (gEnv h.objs.size))) rfl
 refine ⟨(F.wf.nl.keeps F.keep).keeps hk, ?_⟩
 refine q h'.objs.size [(h'.objs.size, ⟨.type "generator", none, .fields #[.int g.size 0, .str fd_iter_escaped_chars.name (tk + 1), .str fd_iter_escaped_chars.qualname (tk + 1 + 1)], #[]⟩), (h.objs.size, oL)] _ _ (GenSt.fresh (tx := tx) ⟨_, _, rfl, rfl, rfl⟩ hN (by kernel_rfl) ha) F₄ ?_
 show (g.push _)[g.size]? = _
 rw [Array.getElem?_push_size]; rfl
end
noncomputable abbrev Q1 : PySem.Str := Str.ofString "\""
noncomputable abbrev SSt : Type := Nat × Option Nat × List PySem.Str
noncomputable def stripStep (x : PySem.Str) (st : SSt) (u : Nat × PySem.Str) : SSt :=
 if u.2 == Q1 then match st.2.1 with
  | none => (st.1, some u.1, st.2.2)
  | some o => (u.1 + 1, none, if st.1 = o then st.2.2 else st.2.2 ++ [Txt.slice x (some st.1) (some o)])
 else st
noncomputable def stripEnd (x : PySem.Str) (st : SSt) : List PySem.Str := if st.1 < x.length then st.2.2 ++ [Txt.slice x (some st.1) none] else st.2.2
noncomputable def stripF (x : PySem.Str) : PySem.Str :=
 if (Builtin.Str.occurrences x Q1 0 x.length 1).isEmpty then x else Txt.join ⟨#[]⟩ (stripEnd x ((units x).foldl (stripStep x) (0, none, [])))
noncomputable def opV (t : Tok) : Option Nat → Value
 | none => .none
 | some o => .int (o : Nat) t
section
variable {w : World} {B : Heap} {L I : Addr} {m : PySem.Str → Option Value} {cm : PySem.Str → Option Value} {own rest : List (Addr × Obj)} {s₀ s : Shared} {A : Around} {E : Value → Shared → Prop} {n : Nat} {x : PySem.Str} {tx : Tok} {lr : Addr} {Q : Flow → Shared → Prop} {g : Nat}
noncomputable abbrev stripFor : Stmt := body_strip_quoted_realnames.getD 4 default
noncomputable abbrev stT : Expr := (forParts stripFor).1
noncomputable abbrev stB : List Stmt := (forParts stripFor).2.2.1
theorem gen_go {us : List (Nat × PySem.Str)} {gs : GenState} {elts : List Expr} {k : Nat} {pos : Pos} {T : Addr} {oT : Obj} {Q : Unit → Shared → Prop} (hst : GenSt w A us I g own gs) (F : Fm w B L [] s₀ m cm ((T, oT) :: own ++ rest) s) (q : Q () s) :
  wpAny (M w) A (letOwnedTupleGo (.Tuple elts k pos) (.ref I) (.ref T)) Q E s := by
 have fin : ∀ oI, GenO oI g → s.heap.get? I = some oI → wpAny (M w) A (letOwnedTupleGo (.Tuple elts k pos) (.ref I) (.ref T)) Q E s := fun oI ⟨nm, qn, c1, c2, c3⟩ e => by
  unfold letOwnedTupleGo
  refine wpAny_bind (wpAny_load e ?_)
  rw [c1, c2]
  dsimp only
  (ktn_no "iN"; exact (by simp))
  exact wpAny_pure q
 cases hst with
 | fresh hI _ _ _ => exact fin _ hI (F.at 1 rfl)
 | susp hI _ _ _ => exact fin _ hI (F.at 1 rfl)
theorem zfa (R : Room (n + 10) A) (hlx : x.length ≤ 100000) :
  ∀ (us : List (Nat × PySem.Str)) (st : SSt) (m : PySem.Str → Option Value) (own : List (Addr × Obj)) (gs : GenState) (s : Shared) (nl : Nat) (l : List (PySem.Str × Tok)) (t1 t2 : Tok),
   GenSt w A us I g own gs → s.gens[g]? = some gs → s₀.gens.size ≤ g → Fm w B L [] s₀ m cm (own ++ ((lr, lsO (strValues l) nl) :: rest)) s → l.map (·.1) = st.2.2 → m "addr" = some (.str x tx) → m "result" = some (.ref lr) → m "start" = some (.int (st.1 : Nat) t1) → m "open_pos" = some (opV t2 st.2.1) → st.2.2.length + us.length ≤ 100000 →
   (∀ m' nl' l' t1' s', Fm w B L [] s₀ m' cm ((lr, lsO (strValues l') nl') :: rest) s' → l'.map (·.1) = (us.foldl (stripStep x) st).2.2 → m' "addr" = some (.str x tx) → m' "result" = some (.ref lr) → m' "start" = some (.int ((us.foldl (stripStep x) st).1 : Nat) t1') → Q .next s') →
   LoopC w A stT (.ref I) stB [] (callEnv fd_strip_quoted_realnames L a_strip_quoted_realnames) Q s := by
 intro us
 induction us with
 | nil =>
  intro st m own gs s nl l t1 t2 hst hg hs F hl ha hr hs1 ho hle hq
  refine zab ?_
  refine za5 (n := n) (R.less (by ktn_no "le")) F hst hg hs fun s' F' => ?_
  dsimp only
  exact wpAny_execs_nil (hq _ _ _ _ _ F' hl ha hr hs1)
 | cons ab us ih =>
  obtain ⟨a, b⟩ := ab
  intro st m own gs s nl l t1 t2 hst hg hs F hl ha hr hs1 ho hle hq
  refine zab ?_
  refine za5 (n := n) (R.less (by ktn_no "le")) F hst hg hs fun T u1 u2 own' gs' s' hst' F' hg' => ?_
  dsimp only
  refine gen_go hst' F' ?_
  obtain ⟨h₂, g₂, d₂, k₂, o₂⟩ := s'
  refine zao F' R.handled (F'.at 0 rfl) rfl (by kernel_rfl) (by kernel_rfl) (by kernel_rfl) fun h₃ k₃ F₃ => ?_
  have F₄ := F₃.drop 1
  simp only [List.cons_append, List.drop] at F₄
  clear F F' F₃
  have eB : stB = stB := rfl
  ktn_no "ast"
  ktn_no "x"
  refine eq_str ?_
  ktn_no "x"
  simp only [List.foldl_cons] at hq
  cases hb : b == Q1 with
  | false =>
   have e : stripStep x st (a, b) = st := by simp only [stripStep, hb]; rfl
   rw [e] at hq
   (ktn_no "iN"; exact (by decide))
   ktn_no "x"
   exact ih st _ _ _ _ _ l t1 t2 hst' hg' hs (F₄.toks _) hl (by ktn_no "k_val") (by ktn_no "k_val") (by ktn_no "k_val") (by ktn_no "k_val") (by simp at hle ⊢; ktn_no "o4") hq
  | true =>
   (ktn_no "iP"; exact rfl)
   obtain ⟨st1, st2, st3⟩ := st
   cases st2 with
   | none =>
    have e : stripStep x (st1, none, st3) (a, b) = (st1, some a, st3) := by simp only [stripStep, hb]; rfl
    rw [e] at hq
    simp only [opV] at ho
    ktn_no "x"
    (ktn_no "iP"; exact (by decide))
    ktn_no "x"
    rename_i h₅ F₅
    exact ih (st1, some a, st3) _ _ _ _ _ l t1 u1 hst' hg' hs F₅ hl (by ktn_no "k_val") (by ktn_no "k_val") (by ktn_no "k_val") (by ktn_no "k_val") (by simp at hle ⊢; ktn_no "o4") hq
   | some o =>
    have e : stripStep x (st1, some o, st3) (a, b) = (a + 1, none, if st1 = o then st3 else st3 ++ [Txt.slice x (some st1) (some o)]) := by simp only [stripStep, hb]; rfl
    rw [e] at hq
    simp only [opV] at ho
    ktn_no "x"
    (ktn_no "iN"; exact (by simp))
    ktn_no "x"
    refine ne_int ?_
    ktn_no "x"
    by_cases h1 : st1 = o
    ·subst h1
     (ktn_no "iN"; exact (by simp))
     rw [if_pos rfl] at hq
     ktn_no "x"
     rename_i h₅ F₅ h₆ F₆
     exact ih (a + 1, none, st3) _ _ _ _ _ l _ 0 hst' hg' hs F₆ hl (by ktn_no "k_val") (by ktn_no "k_val") (by ktn_no "k_val") (by ktn_no "k_val") (by simp at hle ⊢; ktn_no "o4") hq
    ·(ktn_no "iP"; exact (by rw [bne_iff_ne]; intro z; ktn_no "o4"))
     rw [if_neg h1] at hq
     ktn_no "x"
     have G₁ := F₄.perm (news' := (lr, lsO (strValues l) nl) :: (own' ++ rest)) (by ktn_no "perm_tac")
     refine Calls.getMethod_list_append (G₁.at 0 rfl) rfl rfl ?_
     ktn_no "x"
     refine wpAny_Subscript_str_slice ?_ (fun _ _ => rfl)
     ktn_no "x"
     refine evalPart_some_step ?_
     ktn_no "x"
     refine evalPart_some_step ?_
     ktn_no "x"
     refine ⟨x, tx, some ((st1 : Nat), t1), some ((o : Nat), t2), rfl, rfl, rfl, post_val_or_str ⟨Nat.le_trans (Txt.slice_le x (some (st1 : Nat)) (some (o : Nat))) (Nat.le_trans hlx (by decide)), fun t' k' => ?_⟩⟩
     dsimp only
     have G₂ := G₁.push1 (g := g₂) (d := d₂) (tk := k') (slO (.int (st1 : Nat) t1) (.int (o : Nat) t2) .none)
     ktn_no "x"
     have hll : l.length = st3.length := by have := congrArg List.length hl; simpa using this
     refine append_at (G₂.at 1 rfl) (fun h₇ hs₇ hx₇ => ?_) (Nat.le_trans (by simp [strValues] at hle ⊢; ktn_no "o4") (show (100000 : Nat) ≤ sizeLine by decide))
     have e5 : (strValues l).toArray.push (.str (Txt.slice x (some (st1 : Nat)) (some (o : Nat))) t') = (strValues (l ++ [(Txt.slice x (some (st1 : Nat)) (some (o : Nat)), t')])).toArray := by simp [strValues]
     have F₇ := G₂.set1 (i := 1) (g := g₂) (d := d₂) (tk := k') (o' := ⟨.type "list", none, .seq (strValues (l ++ [(Txt.slice x (some (st1 : Nat)) (some (o : Nat)), t')])).toArray (nl + 1), #[]⟩) rfl hs₇ (by rw [← e5]; exact hx₇)
     have F₈ := (F₇.drop 1).perm (news' := own' ++ (lr, ⟨.type "list", none, .seq (strValues (l ++ [(Txt.slice x (some (st1 : Nat)) (some (o : Nat)), t')])).toArray (nl + 1), #[]⟩) :: rest) (by simp only [List.set, List.drop]; ktn_no "perm_tac")
     clear F₄ G₁ G₂ F₇
     ktn_no "x"
     rename_i h₉ F₉ h₁₀ F₁₀
     exact ih (a + 1, none, st3 ++ [Txt.slice x (some (st1 : Nat)) (some (o : Nat))]) _ _ _ _ _ (l ++ [(Txt.slice x (some (st1 : Nat)) (some (o : Nat)), t')]) _ 0 hst' hg' hs F₁₀ (by simp [hl]) (by ktn_no "k_val") (by ktn_no "k_val") (by ktn_no "k_val") (by ktn_no "k_val") (by simp at hle ⊢; ktn_no "o4") hq
end
noncomputable def StripOk (x : PySem.Str) : Prop := x.cps.all (· < 128) = true ∧ x.length ≤ 10000 ∧ JoinOk (⟨#[]⟩ : PySem.Str) (stripEnd x ((units x).foldl (stripStep x) (0, none, []))) = true
theorem zdL : ∀ (l : List Nat) (p : Nat) (e : Bool) (last : Nat), (esc l p e last).length ≤ l.length + 1 := by
 intro l
 induction l with
 | nil =>
  intro p e last
  unfold esc; split <;> simp
 | cons c r ih =>
  intro p e last
  unfold esc
  split
  ·have := ih (p + 1) false p; simp; ktn_no "o4"
  ·split
   ·have := ih (p + 1) true p; simp; ktn_no "o4"
   ·have := ih (p + 1) false p; simp; ktn_no "o4"
theorem zdD (x : PySem.Str) : ∀ (us : List (Nat × PySem.Str)) (st : SSt), (us.foldl (stripStep x) st).2.2.length ≤ st.2.2.length + us.length := by
 intro us
 induction us with
 | nil =>
  intro st
  simp
 | cons u us ih =>
  intro st
  have := ih (stripStep x st u)
  have h2 : (stripStep x st u).2.2.length ≤ st.2.2.length + 1 := by
   unfold stripStep
   split
   ·split
    ·simp
    ·simp only []; split <;> simp
   ·ktn_no "o4"
  simp only [List.foldl_cons, List.length_cons]; ktn_no "o4"
section
variable {w : World} {B : Heap} {L I : Addr} {m : PySem.Str → Option Value} {cl : List (PySem.Str × Addr)} {cm : PySem.Str → Option Value} {own rest : List (Addr × Obj)} {s₀ s : Shared} {A : Around} {E : Value → Shared → Prop} {n : Nat} {x : PySem.Str} {tx : Tok} {lr : Addr} {Q : Value → Shared → Prop} {g : Nat}
theorem zc2 {us : List (Nat × PySem.Str)} {gs : GenState} (hst : GenSt w A us I g own gs) (F : Fm w B L cl s₀ m cm (own ++ rest) s) {A₂ : Around} (q : Q (.ref I) s) : wpAny (M w) A₂ (pyIter (.ref I)) Q E s := by
 cases hst with
 | fresh hI _ _ _ => obtain ⟨nm, qn, c⟩ := hI; exact wpAny_pyIter_gen ⟨_, nm, qn, F.at 0 rfl, c⟩ q
 | susp hI _ _ _ => obtain ⟨nm, qn, c⟩ := hI; exact wpAny_pyIter_gen ⟨_, nm, qn, F.at 0 rfl, c⟩ q
theorem zcB (R : Room (n + 20) A) (F : Fm w B L cl s₀ m cm rest s) (hx : StripOk x)
  (h : ∀ t s', Fm w B L cl s₀ m cm rest s' → Q (.str (stripF x) t) s') :
  wpAny (M w) A (call (.ref a_strip_quoted_realnames) [.str x tx] []) Q E s := by
 (refine x0_3 (hx) ?_; try clear hx; intro ha hlx hj)
 refine zam (binds := [("addr", .str x tx)]) (fd := fd_strip_quoted_realnames) (cmF := fun _ => none) R F (zaF _) (zaH _) rfl (BindsTo.of_eq rfl) (by decide) (by kernel_rfl) (fun _ _ e => (by cases e)) (fun _ _ _ e => (by cases e)) ?_ rfl rfl rfl
 intro Qo hQo L' s₁ hL F₁ R₁
 obtain ⟨h₁, g₁, d₁, k₁, o₁⟩ := s₁
 ktn_no "ast"
 ktn_no "x"
 refine notIn_str ?_
 ktn_no "x"
 cases hoc : (Builtin.Str.occurrences x Q1 0 x.length 1).isEmpty with
 | true =>
  (ktn_no "iP"; exact (by decide))
  ktn_no "x"
  refine hQo _ _ <| Back.of (F₁.toks _) fun G => ?_
  have e : stripF x = x := by unfold stripF; rw [if_pos hoc]
  have := h tx _ G
  rw [e] at this
  exact this
 | false =>
  have e : stripF x = Txt.join ⟨#[]⟩ (stripEnd x ((units x).foldl (stripStep x) (0, none, []))) := by unfold stripF; rw [hoc]; rfl
  rw [e] at h
  (ktn_no "iN"; exact (by decide))
  ktn_no "x"
  rename_i h₂ F₂ h₃ F₃
  refine zap (by simp) ?_
  have F₄ := F₃.push1 (g := g₁) (d := d₁) (tk := k₁ + 1 + 1) (lsO [] 0)
  refine st_L F₄ (by kernel_rfl) (by kernel_rfl!) (by kernel_rfl) fun h₅ F₅ => ?_
  clear F₁ F₂ F₃ F₄
  refine wpAny_execs_cons (wFor ?_ (fun x => rfl))
  ktn_no "x"
  refine zc4 (n := n + 10) (A.deeper (callEnv fd_strip_quoted_realnames L' a_strip_quoted_realnames)) (R₁.less (by ktn_no "le")) (F₅.toks _) ha fun I own gs s' hst F₆ hg => ?_
  obtain ⟨h₆, g₆, d₆, k₆, o₆⟩ := s'
  refine zc2 hst F₆ ?_
  refine zfa (x := x) (tx := tx) (n := n + 5) (R₁.less (by ktn_no "le")) (by ktn_no "om") (units x) (0, none, []) _ _ _ _ _ [] _ 0 hst hg F₅.rl.gsize F₆ rfl (by ktn_no "k_val") (by ktn_no "k_val") (by ktn_no "k_val") (by ktn_no "k_val") (by have := zdL x.cps.toList 0 false 0; have e2 : x.cps.toList.length = x.length := rfl; simp [units]; ktn_no "o4") fun m' nl' l' t1' s' F₇ hl' hm1 hm2 hm3 => ?_
  obtain ⟨h₇, g₇, d₇, k₇, o₇⟩ := s'
  clear F₅ F₆
  ktn_no "x"
  refine SBL.len (by ktn_no "om") ?_
  ktn_no "x"
  generalize hst' : (units x).foldl (stripStep x) (0, none, []) = st at *
  have hll : l'.length = st.2.2.length := by have := congrArg List.length hl'; simpa using this
  have hlen : st.2.2.length ≤ 20000 := by
   have h1 := zdD x (units x) (0, none, [])
   have h2 := zdL x.cps.toList 0 false 0
   have h3 : x.cps.toList.length = x.length := rfl
   rw [hst'] at h1
   simp only [List.length_nil] at h1
   have h4 : (units x).length ≤ x.cps.toList.length + 1 := h2
   ktn_no "o4"
  by_cases hlt : st.1 < x.length
  ·(ktn_no "iP"; exact (by simpa using hlt))
   have ee : stripEnd x st = st.2.2 ++ [Txt.slice x (some st.1) none] := if_pos hlt
   rw [ee] at h hj
   ktn_no "x"
   refine Calls.getMethod_list_append (F₇.at 0 rfl) rfl rfl ?_
   ktn_no "x"
   refine wpAny_Subscript_str_slice ?_ (fun _ _ => rfl)
   ktn_no "x"
   refine evalPart_some_step ?_
   ktn_no "x"
   refine evalPart_none_step ?_
   refine ⟨x, tx, some ((st.1 : Nat), t1'), none, rfl, rfl, rfl, post_val_or_str ⟨Nat.le_trans (Txt.slice_le x (some (st.1 : Nat)) none) (Nat.le_trans hlx (by decide)), fun t' k' => ?_⟩⟩
   dsimp only
   have G₂ := F₇.push1 (g := g₇) (d := d₇) (tk := k') (slO (.int (st.1 : Nat) t1') .none .none)
   ktn_no "x"
   refine append_at (G₂.at 1 rfl) (fun h₈ hs₈ hx₈ => ?_) (Nat.le_trans (by simp [strValues]; ktn_no "o4") (show (100000 : Nat) ≤ sizeLine by decide))
   have e5 : (strValues l').toArray.push (.str (Txt.slice x (some (st.1 : Nat)) none) t') = (strValues (l' ++ [(Txt.slice x (some (st.1 : Nat)) none, t')])).toArray := by simp [strValues]
   have F₈ := G₂.set1 (i := 1) (g := g₇) (d := d₇) (tk := k') (o' := ⟨.type "list", none, .seq (strValues (l' ++ [(Txt.slice x (some (st.1 : Nat)) none, t')])).toArray (nl' + 1), #[]⟩) rfl hs₈ (by rw [← e5]; exact hx₈)
   dsimp only [List.set] at F₈
   ktn_no "x"
   refine GM.join ?_
   ktn_no "x"
   refine zaZ (F₈.at 1 rfl) (.inl rfl) rfl (by simpa [hl', zaW] using hj) fun t' k' => ?_
   refine hQo _ _ <| Back.of ((F₈.drop 2).toks _) fun G => ?_
   rw [zaW]
   simpa [hl', retV] using h _ _ G
  ·(ktn_no "iN"; exact (by simpa using hlt))
   have ee : stripEnd x st = st.2.2 := if_neg hlt
   rw [ee] at h hj
   ktn_no "x"
   refine GM.join ?_
   ktn_no "x"
   refine zaZ (F₇.at 0 rfl) (.inl rfl) rfl (by simpa [hl', zaW] using hj) fun t' k' => ?_
   refine hQo _ _ <| Back.of ((F₇.drop 1).toks _) fun G => ?_
   rw [zaW]
   simpa [hl', retV] using h _ _ G
end
section
variable {w : World} {B : Heap} {L : Addr} {m : PySem.Str → Option Value} {cl : List (PySem.Str × Addr)} {cm : PySem.Str → Option Value} {news : List (Addr × Obj)} {s₀ : Shared} {A : Around} {E : Value → Shared → Prop}
 {h : Heap} {g g₀ : Array GenState} {d d₀ : Drawn} {tk tk₀ : Nat} {os os₀ : OsState} {env : Env} {x : PySem.Str} {v : Value}
theorem ln_L {Q : Value → Shared → Prop} (F : Fm w B L cl s₀ m cm news ⟨h, g₀, d₀, tk₀, os₀⟩) (hk : env.scope.kind = .function) (hx : env.kindOf x = some .local) (hL : env.locals = L) (hv : m x = some v) (q : Q v ⟨h, g, d, tk, os⟩) :
  wpAny (M w) A (loadName env x) Q E ⟨h, g, d, tk, os⟩ := wpAny_loadName_local hk hx (by subst hL; exact F.ns) hv q
end
local macro_rules | `(tactic| ktn_no "y1") => `(tactic| first
 | ktn_no "x1"
 | (with_reducible refine ln_L (by assumption) (by kernel_rfl) (by kernel_rfl!) (by kernel_rfl) (by ktn_no "k_val") ?_)
 | (with_reducible refine iadd_int ?_)
 | (with_reducible refine isub_int ?_)
 | (with_reducible refine ne_int ?_)
 | (with_reducible refine le_int ?_)
 | (with_reducible refine eq_str ?_)
 | (with_reducible refine Subscript_ ?_))
local macro_rules | `(tactic| ktn_no "y") => `(tactic| repeat ktn_no "y1")
noncomputable abbrev cOp : PySem.Str := Str.ofString "("
noncomputable abbrev cCl : PySem.Str := Str.ofString ")"
noncomputable def checkGo : List (Nat × PySem.Str) → Int → Bool
 | [], o => o == 0
 | u :: us, o => if u.2 == cOp then checkGo us (o + 1) else if u.2 == cCl then (if o - 1 < 0 then false else checkGo us (o - 1)) else checkGo us o
noncomputable def checkF (x : PySem.Str) : Bool := checkGo (units (stripF x)) 0
section
variable {w : World} {B : Heap} {L I : Addr} {m : PySem.Str → Option Value} {cm : PySem.Str → Option Value} {own rest : List (Addr × Obj)} {s₀ s : Shared} {A : Around} {E : Value → Shared → Prop} {n : Nat} {x : PySem.Str} {tx : Tok} {Q : Flow → Shared → Prop} {g : Nat}
noncomputable abbrev ckFor : Stmt := body_check_parenthesis.getD 2 default
noncomputable abbrev ckT : Expr := (forParts ckFor).1
noncomputable abbrev ckB : List Stmt := (forParts ckFor).2.2.1
theorem cgo1 {a : Nat} {b : PySem.Str} {us : List (Nat × PySem.Str)} {o : Int} (h : (b == cOp) = true) : checkGo ((a, b) :: us) o = checkGo us (o + 1) := by
 rw [checkGo]; exact if_pos h
theorem cgo2 {a : Nat} {b : PySem.Str} {us : List (Nat × PySem.Str)} {o : Int} (h : (b == cOp) = false) (h2 : (b == cCl) = true) (h3 : o - 1 < 0) : checkGo ((a, b) :: us) o = false := by
 rw [checkGo]; dsimp only; rw [h, if_neg (by decide), if_pos h2, if_pos h3]
theorem cgo3 {a : Nat} {b : PySem.Str} {us : List (Nat × PySem.Str)} {o : Int} (h : (b == cOp) = false) (h2 : (b == cCl) = true) (h3 : ¬ o - 1 < 0) : checkGo ((a, b) :: us) o = checkGo us (o - 1) := by
 rw [checkGo]; dsimp only; rw [h, if_neg (by decide), if_pos h2, if_neg h3]
theorem cgo4 {a : Nat} {b : PySem.Str} {us : List (Nat × PySem.Str)} {o : Int} (h : (b == cOp) = false) (h2 : (b == cCl) = false) : checkGo ((a, b) :: us) o = checkGo us o := by
 rw [checkGo]; dsimp only; rw [h, if_neg (by decide), h2, if_neg (by decide)]
theorem zfq (R : Room (n + 10) A) :
  ∀ (us : List (Nat × PySem.Str)) (op : Int) (m : PySem.Str → Option Value) (own : List (Addr × Obj)) (gs : GenState) (s : Shared) (t1 : Tok),
   GenSt w A us I g own gs → s.gens[g]? = some gs → s₀.gens.size ≤ g → Fm w B L [] s₀ m cm (own ++ rest) s → m "opens" = some (.int op t1) →
   (∀ m' t1' s' op', Fm w B L [] s₀ m' cm rest s' → m' "opens" = some (.int op' t1') → (op' == 0) = checkGo us op → Q .next s') →
   (∀ m' s', Fm w B L [] s₀ m' cm rest s' → checkGo us op = false → Q (.ret (.bool false)) s') →
   LoopC w A ckT (.ref I) ckB [] (callEnv fd_check_parenthesis L a_check_parenthesis) Q s := by
 intro us
 induction us with
 | nil =>
  intro op m own gs s t1 hst hg hs F ho hq hf
  refine zab ?_
  refine za5 (n := n) (R.less (by ktn_no "le")) F hst hg hs fun s' F' => ?_
  dsimp only
  exact wpAny_execs_nil (hq _ _ _ _ F' ho rfl)
 | cons ab us ih =>
  obtain ⟨a, b⟩ := ab
  intro op m own gs s t1 hst hg hs F ho hq hf
  refine zab ?_
  refine za5 (n := n) (R.less (by ktn_no "le")) F hst hg hs fun T u1 u2 own' gs' s' hst' F' hg' => ?_
  dsimp only
  refine gen_go hst' F' ?_
  obtain ⟨h₂, g₂, d₂, k₂, o₂⟩ := s'
  refine zao F' R.handled (F'.at 0 rfl) rfl (by kernel_rfl) (by kernel_rfl) (by kernel_rfl) fun h₃ k₃ F₃ => ?_
  have F₄ := F₃.drop 1
  simp only [List.cons_append, List.drop] at F₄
  clear F F' F₃
  ktn_no "ast"
  ktn_no "x"
  refine eq_str ?_
  ktn_no "x"
  cases h1 : b == cOp with
  | true =>
   (ktn_no "iP"; exact rfl)
   ktn_no "y"
   rename_i h₅ F₅
   exact ih (op + 1) _ _ _ _ _ hst' hg' hs F₅ (by ktn_no "k_val") (fun m' t1' s' op' X1 X2 e => hq m' t1' s' op' X1 X2 (e.trans (cgo1 h1).symm)) (fun m' s' X1 e => hf m' s' X1 ((cgo1 h1).trans e))
  | false =>
   (ktn_no "iN"; exact (by decide))
   ktn_no "x"
   refine eq_str ?_
   ktn_no "x"
   cases h2 : b == cCl with
   | true =>
    (ktn_no "iP"; exact rfl)
    ktn_no "y"
    rename_i h₅ F₅
    by_cases h3 : op - 1 < 0
    ·(ktn_no "iP"; exact (by simpa using h3))
     ktn_no "x"
     exact hf _ _ ((F₅.sub (List.sublist_append_right _ _)).toks _) (cgo2 h1 h2 h3)
    ·(ktn_no "iN"; exact (by simpa using h3))
     ktn_no "x"
     exact ih (op - 1) _ _ _ _ _ hst' hg' hs (F₅.toks _) (by ktn_no "k_val") (fun m' t1' s' op' X1 X2 e => hq m' t1' s' op' X1 X2 (e.trans (cgo3 h1 h2 h3).symm)) (fun m' s' X1 e => hf m' s' X1 ((cgo3 h1 h2 h3).trans e))
   | false =>
    (ktn_no "iN"; exact (by decide))
    ktn_no "x"
    exact ih op _ _ _ _ t1 hst' hg' hs (F₄.toks _) (by ktn_no "k_val") (fun m' t1' s' op' X1 X2 e => hq m' t1' s' op' X1 X2 (e.trans (cgo4 h1 h2).symm)) (fun m' s' X1 e => hf m' s' X1 ((cgo4 h1 h2).trans e))
theorem zcm {cl : List (PySem.Str × Addr)} {Q : Value → Shared → Prop} (R : Room (n + 24) A) (F : Fm w B L cl s₀ m cm rest s) (hx : StripOk x) (hx2 : (stripF x).cps.all (· < 128) = true)
  (h : ∀ s', Fm w B L cl s₀ m cm rest s' → Q (.bool (checkF x)) s') :
  wpAny (M w) A (call (.ref a_check_parenthesis) [.str x tx] []) Q E s := by
 refine zam (binds := [("addr", .str x tx)]) (fd := fd_check_parenthesis) (cmF := fun _ => none) R F (zba _) (zbb _) rfl (BindsTo.of_eq rfl) (by decide) (by kernel_rfl) (fun _ _ e => (by cases e)) (fun _ _ _ e => (by cases e)) ?_ rfl rfl rfl
 intro Qo hQo L' s₁ hL F₁ R₁
 obtain ⟨h₁, g₁, d₁, k₁, o₁⟩ := s₁
 ktn_no "ast"
 ktn_no "y"
 refine zcB (n := n + 2) (R₁.less (by ktn_no "le")) F₁ hx fun t₂ s' F₂ => ?_
 obtain ⟨h₂, g₂, d₂, k₂, o₂⟩ := s'
 clear F₁
 ktn_no "y"
 rename_i h₃ F₃ h₄ F₄
 refine wFor ?_ (fun x => rfl)
 ktn_no "y"
 refine zc4 (n := n + 10) (A.deeper (callEnv fd_check_parenthesis L' a_check_parenthesis)) (R₁.less (by ktn_no "le")) (F₄.toks _) hx2 fun I own gs s' hst F₆ hg => ?_
 obtain ⟨h₆, g₆, d₆, k₆, o₆⟩ := s'
 refine zc2 hst F₆ ?_
 refine zfq (n := n + 5) (R₁.less (by ktn_no "le")) (units (stripF x)) 0 _ _ _ _ _ hst hg F₄.rl.gsize F₆ (by ktn_no "k_val") (fun m' t1' s' op' F₇ hm1 hop => ?_) (fun m' s' F₇ hop => ?_)
 ·obtain ⟨h₇, g₇, d₇, k₇, o₇⟩ := s'
  clear F₂ F₃ F₄ F₆
  ktn_no "y"
  refine hQo _ _ <| Back.of (F₇.toks _) fun G => ?_
  have := h _ G
  unfold checkF at this
  rw [← hop] at this
  exact this
 ·refine hQo _ _ <| Back.of F₇ fun G => ?_
  have := h _ G
  unfold checkF at this
  rw [hop] at this
  exact this
end
section
open PySem.Builtin.Re
noncomputable abbrev SM := PySem.Sre.M
theorem zdM (m : SM) : ∀ a b, m.runFor (a + b) = (m.runFor a).runFor b := by
 intro a
 induction a generalizing m with
 | zero => intro b; simp [Sre.M.runFor]
 | succ a ih =>
  intro b
  rw [Nat.add_right_comm a 1 b]
  simp only [Sre.M.runFor]
  split
  ·rename_i h
   cases b with
   | zero => simp [Sre.M.runFor]
   | succ b => simp [Sre.M.runFor, h]
  ·exact ih _ _
theorem zeQ {m : SM} (h : m.outcome.isSome = true) : ∀ n, m.runFor n = m
 | 0 => rfl
 | n + 1 => by simp [Sre.M.runFor, h]
noncomputable def Final (m : SM) (r : Option (Nat × Nat)) : Prop := match r with
 | some (a, b) => m.outcome = some .matched ∧ m.start = a ∧ m.handed = b
 | none => m.outcome = some .failed
theorem Final.some {m : SM} {r : Option (Nat × Nat)} (h : Final m r) : m.outcome.isSome = true := by
 cases r with
 | none => rw [show m.outcome = _ from h]; rfl
 | some p => rw [h.1]; rfl
noncomputable def Ends (m : SM) (n : Nat) (r : Option (Nat × Nat)) : Prop := Final (m.runFor n) r
theorem Ends.step {m : SM} {n : Nat} {r : Option (Nat × Nat)} (h : Ends m.step n r) (ho : m.outcome = none) : Ends m (n + 1) r := by
 unfold Ends at *
 simp only [Sre.M.runFor, ho]
 exact h
theorem Ends.mono {m : SM} {n k : Nat} {r : Option (Nat × Nat)} (h : Ends m n r) (hk : n ≤ k) : Ends m k r := by
 unfold Ends at *
 obtain ⟨j, rfl⟩ := Nat.le.dest hk
 rw [zdM, zeQ h.some]
 exact h
section
variable {M : Model} {A : Around} {E : Value → Shared → Prop} {s : Shared}
theorem drive {r : Option (Nat × Nat)} {Q : SM → Shared → Prop} (hq : ∀ m', Final m' r → Q m' s) : ∀ (T : Nat) (m : SM) (n : Nat), Ends m n r → n ≤ 4 * T → 0 < T → wpAny M A (reDrive T m) Q E s := by
 intro T
 induction T with
 | zero =>
  intro _ _ _ _ h
  exact absurd h (Nat.lt_irrefl _)
 | succ T ih =>
  intro m n h hn _
  unfold reDrive
  rw [show reTurnSteps = 4 from rfl]
  dsimp only
  cases ho : (m.runFor 4).outcome.isSome with
  | true =>
   (ktn_no "iP"; exact rfl)
   refine wpAny_pure (hq _ ?_)
   have h2 : Ends m (4 + n) r := h.mono (Nat.le_add_left _ _)
   unfold Ends at h2
   rwa [zdM, zeQ ho] at h2
  | false =>
   (ktn_no "iN"; exact (by decide))
   have hn4 : 4 < n := by
    rcases Nat.lt_or_ge 4 n with z | z
    ·exact z
    ·have h2 : Ends m 4 r := h.mono z
     have := h2.some
     rw [ho] at this; cases this
   refine wpAny_bind (wpAny_rule ?_)
   refine ih (m.runFor 4) (n - 4) ?_ (Nat.sub_le_iff_le_add.mpr hn) (Nat.pos_of_ne_zero fun z => absurd hn (by rw [z]; exact Nat.not_le_of_lt hn4))
   unfold Ends at h ⊢
   rwa [← zdM, Nat.add_sub_cancel' (Nat.le_of_lt hn4)]
theorem zg1 (m : SM) (l : List Nat) {Q : PUnit → Shared → Prop} (q : Q PUnit.unit s) : wpAny M A (forIn l PUnit.unit fun i _ => (if m.seen.has i = true then do
      rule (Sre.names.getD i "")
      pure (ForInStep.yield PUnit.unit)
  else pure (ForInStep.yield PUnit.unit) : Sem (ForInStep PUnit))) Q E s := by
 induction l with
 | nil => exact wpAny_pure q
 | cons i r ih =>
  simp only [List.forIn_cons]
  refine wpAny_bind ?_
  split
  ·exact wpAny_bind (wpAny_rule (wpAny_pure ih))
  ·exact wpAny_pure ih
theorem runEnd {m : SM} {n : Nat} {r : Option (Nat × Nat)} {Q : Option SM → Shared → Prop} (h : Ends m n r) (hn : n ≤ 2 ^ 64)
  (q : ∀ o : Option SM, (match r with | some (a, b) => ∃ m', o = some m' ∧ m'.start = a ∧ m'.handed = b | none => o = none) → Q o s) : wpAny M A (reRunToEnd m) Q E s := by
 unfold reRunToEnd
 refine wpAny_bind (drive (r := r) (fun m' hm => ?_) _ m n h (by ktn_no "om") (by ktn_no "om"))
 refine wpAny_bind (zg1 m' _ ?_)
 cases r with
 | none =>
  have : m'.outcome = _ := hm
  rw [this]
  exact wpAny_pure (q none rfl)
 | some p =>
  (refine x0_3 (hm) ?_; try clear hm; intro h1 h2 h3)
  rw [h1]
  exact wpAny_pure (q (some m') ⟨m', rfl, h2, h3⟩)
end
end
section
open PySem.Builtin.Re
noncomputable abbrev code1 : Array Nat := #[14, 4, 0, 1, 1, 6, 1, 16, 46, 1]
noncomputable def S1 (x : Array Nat) (s pc pos : Nat) (fo oo : Bool) (ho : Nat) (mu : Bool) (mk : Array (Option Nat)) (sn : Sre.Seen) (an : Option Bool) : SM :=
 { code := code1, text := x, lim := x.size, start := s, lastStart := x.size, mustAdvance := mu, pc, pos, handed := ho, outermost := oo, marks := mk, lastmark := -1, lastindex := -1, frames := [{ wait := .nextStart, pc := 5, pos := s, outermost := fo }], weight := 1, seen := sn, answer := an }
noncomputable def bol (x : Array Nat) (p : Nat) : Bool := p == 0 || x.getD (p - 1) 0 == 10
section
variable {x : Array Nat} {s pc pos : Nat} {fo oo : Bool} {ho : Nat} {mu : Bool} {mk : Array (Option Nat)} {sn : Sre.Seen} {r : Option (Nat × Nat)} {n : Nat}
theorem s1_at (h : bol x pos = true) : ∃ sn', (S1 x s 5 pos fo oo ho mu mk sn none).step = S1 x s 7 pos fo oo ho mu mk sn' none := by
 refine ⟨((sn.add 6).add (43 + 1)), ?_⟩
 show (if (pos == 0 || x.getD (pos - 1) 0 == 10) = true then _ else _ : SM) = _
 unfold bol at h
 rw [if_pos h]; rfl
theorem zhA (h : bol x pos = false) : ∃ sn', (S1 x s 5 pos fo oo ho mu mk sn none).step = S1 x s 5 pos fo oo ho mu mk sn' (some false) := by
 refine ⟨((sn.add 6).add (43 + 1)), ?_⟩
 show (if (pos == 0 || x.getD (pos - 1) 0 == 10) = true then _ else _ : SM) = _
 unfold bol at h
 rw [h, if_neg (by decide)]; rfl
theorem s1_lit (hl : pos < x.size) (h : (x.getD pos 0 == 46) = true) : ∃ sn', (S1 x s 7 pos fo oo ho mu mk sn none).step = S1 x s 9 (pos + 1) fo oo ho mu mk sn' none := by
 refine ⟨sn.add 16, ?_⟩
 show (if pos ≥ x.size then _ else match (Except.ok (x.getD pos 0 == 46, sn.add 16) : Except String (Bool × Sre.Seen)) with | .error why => _ | .ok (false, seen) => _ | .ok (true, seen) => _ : SM) = _
 rw [if_neg (by ktn_no "om"), h]; rfl
theorem zfO (hl : pos < x.size) (h : (x.getD pos 0 == 46) = false) : ∃ sn', (S1 x s 7 pos fo oo ho mu mk sn none).step = S1 x s 7 pos fo oo ho mu mk sn' (some false) := by
 refine ⟨sn.add 16, ?_⟩
 show (if pos ≥ x.size then _ else match (Except.ok (x.getD pos 0 == 46, sn.add 16) : Except String (Bool × Sre.Seen)) with | .error why => _ | .ok (false, seen) => _ | .ok (true, seen) => _ : SM) = _
 rw [if_neg (by ktn_no "om"), h]; rfl
theorem zfm (hl : x.size ≤ pos) : ∃ sn', (S1 x s 7 pos fo oo ho mu mk sn none).step = S1 x s 7 pos fo oo ho mu mk sn' (some false) := by
 refine ⟨sn.add 16, ?_⟩
 show (if pos ≥ x.size then _ else _ : SM) = _
 rw [if_pos (by ktn_no "om")]; rfl
theorem s1_ok (h : (pos == s) = false) : ∃ sn', (S1 x s 9 pos fo oo ho mu mk sn none).step = S1 x s 9 pos fo oo pos mu mk sn' (some true) := by
 refine ⟨sn.add 1, ?_⟩
 show (if (oo && ((false && pos != x.size) || (mu && pos == s))) = true then _ else _ : SM) = _
 rw [h]; cases oo <;> cases mu <;> rfl
theorem s1_true : Ends (S1 x s pc pos fo oo ho mu mk sn (some true)) 2 (some (s, ho)) := ⟨rfl, rfl, rfl⟩
theorem zhs (h : s < x.size) : (S1 x s pc pos fo oo ho mu mk sn (some false)).step = S1 x (s + 1) 5 (s + 1) false false (s + 1) false mk sn none := by
 show (if s < x.size then _ else _ : SM) = _
 rw [if_pos h]; rfl
theorem zdx (h : ¬ s < x.size) : Ends (S1 x s pc pos fo oo ho mu mk sn (some false)) 2 none := by
 have e : (S1 x s pc pos fo oo ho mu mk sn (some false)).step = _ := show (if s < x.size then _ else _ : SM) = _ by rw [if_neg h]
 refine Ends.step (n := 1) ?_ rfl
 rw [e]
 rfl
noncomputable def hit1 (x : Array Nat) (p : Nat) : Bool := bol x p && (decide (p < x.size) && x.getD p 0 == 46)
noncomputable def find1 (x : Array Nat) : Nat → Nat → Option (Nat × Nat)
 | 0, _ => none
 | k + 1, s => if hit1 x s then some (s, s + 1) else if s < x.size then find1 x k (s + 1) else none
theorem search1 : ∀ (k s : Nat) (fo oo : Bool) (ho : Nat) (mu : Bool) (mk : Array (Option Nat)) (sn : Sre.Seen), s ≤ x.size → x.size < s + k → Ends (S1 x s 5 s fo oo ho mu mk sn none) (5 * k + 5) (find1 x k s) := by
 intro k
 induction k with
 | zero =>
  intro s fo oo ho mu mk sn hs hk
  exact absurd hk (Nat.not_lt_of_le hs)
 | succ k ih =>
  intro s fo oo ho mu mk sn hs hk
  unfold find1
  have next : ∀ pc pos ho' sn', Ends (S1 x s pc pos fo oo ho' mu mk sn' (some false)) (5 * k + 7) (if s < x.size then find1 x k (s + 1) else none) := fun pc pos ho' sn' => by
   by_cases h : s < x.size
   ·rw [if_pos h]
    refine Ends.mono (n := (5 * k + 5) + 1) (Ends.step ?_ rfl) (by ktn_no "om")
    rw [zhs h]
    exact ih (s + 1) _ _ _ _ _ _ h (Nat.lt_of_lt_of_le hk (Nat.le_of_eq (Nat.succ_add_eq_add_succ s k).symm))
   ·rw [if_neg h]
    exact (zdx h).mono (by ktn_no "om")
  cases hb : bol x s with
  | false =>
   have e : hit1 x s = false := by unfold hit1; rw [hb]; rfl
   rw [e, if_neg (by decide)]
   obtain ⟨sn', es⟩ := zhA (s := s) (fo := fo) (oo := oo) (ho := ho) (mu := mu) (mk := mk) (sn := sn) hb
   refine Ends.mono (n := (5 * k + 7) + 1) (Ends.step ?_ rfl) (Nat.add_le_add_left (show 8 ≤ 10 by decide) (5 * k))
   rw [es]
   exact next _ _ _ _
  | true =>
   obtain ⟨sn', es⟩ := s1_at (s := s) (fo := fo) (oo := oo) (ho := ho) (mu := mu) (mk := mk) (sn := sn) hb
   refine Ends.mono (n := ((5 * k + 8) + 1)) (Ends.step ?_ rfl) (Nat.add_le_add_left (show 9 ≤ 10 by decide) (5 * k))
   rw [es]
   by_cases hl : s < x.size
   ·cases hc : x.getD s 0 == 46 with
    | true =>
     have e : hit1 x s = true := by unfold hit1; rw [hb, hc]; simpa using hl
     rw [e, if_pos rfl]
     obtain ⟨sn2, es2⟩ := s1_lit (s := s) (fo := fo) (oo := oo) (ho := ho) (mu := mu) (mk := mk) (sn := sn') hl hc
     refine Ends.mono (n := 2 + 1 + 1) (Ends.step ?_ rfl) (by ktn_no "om")
     rw [es2]
     obtain ⟨sn3, es3⟩ := s1_ok (x := x) (s := s) (pos := s + 1) (fo := fo) (oo := oo) (ho := ho) (mu := mu) (mk := mk) (sn := sn2) (by simp)
     refine Ends.step ?_ rfl
     rw [es3]
     exact s1_true
    | false =>
     have e : hit1 x s = false := by unfold hit1; rw [hc]; simp
     rw [e, if_neg (by decide)]
     obtain ⟨sn2, es2⟩ := zfO (s := s) (fo := fo) (oo := oo) (ho := ho) (mu := mu) (mk := mk) (sn := sn') hl hc
     refine Ends.step ?_ rfl
     rw [es2]
     exact next _ _ _ _
   ·have e : hit1 x s = false := by unfold hit1; rw [decide_eq_false hl]; simp
    rw [e, if_neg (by decide)]
    obtain ⟨sn2, es2⟩ := zfm (s := s) (pos := s) (x := x) (fo := fo) (oo := oo) (ho := ho) (mu := mu) (mk := mk) (sn := sn') (Nat.le_of_not_lt hl)
    refine Ends.step ?_ rfl
    rw [es2]
    exact next _ _ _ _
theorem zdH {must : Bool} (hs : s ≤ x.size) : Ends (Sre.forSearch code1 x 0 s x.size must) (5 * x.size + 20) (if s < x.size then find1 x (x.size - s + 1) s else none) := by
 by_cases h : s < x.size
 ·rw [if_pos h]
  have e : ∃ mk sn, Sre.forSearch code1 x 0 s x.size must = S1 x s 5 s true true s must mk sn none := by
   refine ⟨Array.replicate (2 * 0) none, ({} : Sre.Seen).add 14, ?_⟩
   show (if (decide (s > x.size) || decide (x.size - s < 1)) = true then _ else _ : SM) = _
   rw [if_neg (by simp; exact ⟨hs, Nat.ne_of_gt (Nat.sub_pos_of_lt h)⟩)]
   rfl
  (refine x2_1 (e) ?_; try clear e; intro mk sn e)
  rw [e]
  exact (search1 (x.size - s + 1) s _ _ _ _ _ _ hs (by rw [← Nat.add_assoc, Nat.add_sub_cancel' hs]; exact Nat.lt_succ_self _)).mono (Nat.le_trans (Nat.add_le_add_right (Nat.mul_le_mul_left 5 (Nat.succ_le_succ (Nat.sub_le x.size s))) 5) (Nat.add_le_add_left (show 10 ≤ 20 by decide) (5 * x.size)))
 ·rw [if_neg h]
  have e : Sre.forSearch code1 x 0 s x.size must = _ := show (if (decide (s > x.size) || decide (x.size - s < 1)) = true then _ else _ : SM) = _ by rw [if_pos (by simp; exact .inr (Nat.sub_eq_zero_of_le (Nat.le_of_not_lt h)))]
  rw [e]
  exact Ends.mono (n := 1) rfl (by ktn_no "om")
end
end
section
open PySem.Builtin.Re
noncomputable abbrev code2 : Array Nat := #[14, 9, 4, 1, 2, 16, 10, 16, 13, 0, 7, 7, 16, 13, 16, 10, 15, 18, 5, 16, 10, 15, 13, 11, 16, 13, 5, 5, 0, 16, 10, 1, 15, 2, 0, 1]
noncomputable abbrev NS (t : Nat) (fo : Bool) : Sre.Frame := { wait := .nextStart, pc := 10, pos := t, outermost := fo }
noncomputable abbrev NB (p t : Nat) (fo : Bool) : Sre.Frame := { wait := .nextBranch, pc := p, pos := t, outermost := fo }
noncomputable abbrev LN (t : Nat) (fo : Bool) : Sre.Frame := { wait := .lookNot, pc := 26, pos := t, outermost := fo }
noncomputable def S2 (x : Array Nat) (s : Nat) (frs : List Sre.Frame) (wt pc pos : Nat) (oo : Bool) (ho : Nat) (mk : Array (Option Nat)) (sn : Sre.Seen) (an : Option Bool) : SM :=
 { code := code2, text := x, lim := x.size, start := s, lastStart := x.size, mustAdvance := false, pc, pos, handed := ho, outermost := oo, marks := mk, lastmark := -1, lastindex := -1, frames := frs, weight := wt, seen := sn, answer := an }
section
variable {x : Array Nat} {s t pc pos : Nat} {fo f1 oo : Bool} {ho : Nat} {mk : Array (Option Nat)} {sn : Sre.Seen} {r : Option (Nat × Nat)} {n wt : Nat} {frs : List Sre.Frame}
theorem zfX : ∃ sn', (S2 x s [NS t fo] 1 10 pos oo ho mk sn none).step = S2 x s [NB 11 pos oo, NS t fo] 2 12 pos oo pos mk sn' none := ⟨_, rfl⟩
theorem zfU : ∃ sn', (S2 x s frs wt 16 pos oo ho mk sn none).step = S2 x s frs wt 35 pos oo ho mk sn' none := ⟨sn.add 15, by cases frs <;> rfl⟩
theorem zgS : ∃ sn', (S2 x s frs wt 21 pos oo ho mk sn none).step = S2 x s frs wt 35 pos oo ho mk sn' none := ⟨sn.add 15, by cases frs <;> rfl⟩
theorem zfI : ∃ sn', (S2 x s frs wt 32 pos oo ho mk sn none).step = S2 x s frs wt 35 pos oo ho mk sn' none := ⟨sn.add 15, by cases frs <;> rfl⟩
theorem s2_ok : ∃ sn', (S2 x s frs wt 35 pos oo ho mk sn none).step = S2 x s frs wt 35 pos oo pos mk sn' (some true) := ⟨sn.add 1, by cases frs <;> cases oo <;> rfl⟩
theorem zgo : (S2 x s [NB 11 t f1, NS t fo] 2 pc pos oo ho mk sn (some false)).step = S2 x s [NB 18 t f1, NS t fo] 2 19 t f1 t mk sn none := rfl
theorem s2_alt3 : (S2 x s [NB 18 t f1, NS t fo] 2 pc pos oo ho mk sn (some false)).step = S2 x s [NB 23 t f1, NS t fo] 2 24 t f1 t mk sn none := rfl
theorem s2_look : ∃ sn', (S2 x s [NB 23 t f1, NS t fo] 2 26 pos oo ho mk sn none).step = S2 x s [LN pos oo, NB 23 t f1, NS t fo] 3 29 pos false pos mk sn' none := ⟨sn.add 5, rfl⟩
theorem zfx : (S2 x s [LN t f1, NB 23 s fo, NS s oo] 3 pc pos false ho mk sn (some false)).step = S2 x s [NB 23 s fo, NS s oo] 2 32 t f1 ho mk sn none := rfl
theorem zd5 {p : Nat} : Ends (S2 x s [NB p t f1, NS t fo] 2 pc pos oo ho mk sn (some true)) 3 (some (s, ho)) := ⟨rfl, rfl, rfl⟩
theorem zhw (hl : pos < x.size) (h : (x.getD pos 0 == 13) = true) : ∃ sn', (S2 x s frs wt 12 pos oo ho mk sn none).step = S2 x s frs wt 14 (pos + 1) oo ho mk sn' none := by
 refine ⟨sn.add 16, ?_⟩
 cases frs <;>
 ·show (if pos ≥ x.size then _ else match (Except.ok (x.getD pos 0 == 13, sn.add 16) : Except String (Bool × Sre.Seen)) with | .error why => _ | .ok (false, seen) => _ | .ok (true, seen) => _ : SM) = _
  rw [if_neg (by ktn_no "om"), h]; rfl
theorem zd4 (h : ¬ (pos < x.size ∧ (x.getD pos 0 == 13) = true)) : ∃ sn', (S2 x s frs wt 12 pos oo ho mk sn none).step = S2 x s frs wt 12 pos oo ho mk sn' (some false) := by
 refine ⟨sn.add 16, ?_⟩
 by_cases hl : pos < x.size
 ·have h : (x.getD pos 0 == 13) = false := by cases q : x.getD pos 0 == 13 with | false => rfl | true => exact absurd ⟨hl, q⟩ h
  cases frs <;>
  ·show (if pos ≥ x.size then _ else match (Except.ok (x.getD pos 0 == 13, sn.add 16) : Except String (Bool × Sre.Seen)) with | .error why => _ | .ok (false, seen) => _ | .ok (true, seen) => _ : SM) = _
   rw [if_neg (by ktn_no "om"), h]; rfl
 ·cases frs <;>
  ·show (if pos ≥ x.size then _ else _ : SM) = _
   rw [if_pos (by ktn_no "om")]; rfl
theorem zg4 (hl : pos < x.size) (h : (x.getD pos 0 == 10) = true) : ∃ sn', (S2 x s frs wt 14 pos oo ho mk sn none).step = S2 x s frs wt 16 (pos + 1) oo ho mk sn' none := by
 refine ⟨sn.add 16, ?_⟩
 cases frs <;>
 ·show (if pos ≥ x.size then _ else match (Except.ok (x.getD pos 0 == 10, sn.add 16) : Except String (Bool × Sre.Seen)) with | .error why => _ | .ok (false, seen) => _ | .ok (true, seen) => _ : SM) = _
  rw [if_neg (by ktn_no "om"), h]; rfl
theorem zen (h : ¬ (pos < x.size ∧ (x.getD pos 0 == 10) = true)) : ∃ sn', (S2 x s frs wt 14 pos oo ho mk sn none).step = S2 x s frs wt 14 pos oo ho mk sn' (some false) := by
 refine ⟨sn.add 16, ?_⟩
 by_cases hl : pos < x.size
 ·have h : (x.getD pos 0 == 10) = false := by cases q : x.getD pos 0 == 10 with | false => rfl | true => exact absurd ⟨hl, q⟩ h
  cases frs <;>
  ·show (if pos ≥ x.size then _ else match (Except.ok (x.getD pos 0 == 10, sn.add 16) : Except String (Bool × Sre.Seen)) with | .error why => _ | .ok (false, seen) => _ | .ok (true, seen) => _ : SM) = _
   rw [if_neg (by ktn_no "om"), h]; rfl
 ·cases frs <;>
  ·show (if pos ≥ x.size then _ else _ : SM) = _
   rw [if_pos (by ktn_no "om")]; rfl
theorem zhf (hl : pos < x.size) (h : (x.getD pos 0 == 10) = true) : ∃ sn', (S2 x s frs wt 19 pos oo ho mk sn none).step = S2 x s frs wt 21 (pos + 1) oo ho mk sn' none := by
 refine ⟨sn.add 16, ?_⟩
 cases frs <;>
 ·show (if pos ≥ x.size then _ else match (Except.ok (x.getD pos 0 == 10, sn.add 16) : Except String (Bool × Sre.Seen)) with | .error why => _ | .ok (false, seen) => _ | .ok (true, seen) => _ : SM) = _
  rw [if_neg (by ktn_no "om"), h]; rfl
theorem zd1 (h : ¬ (pos < x.size ∧ (x.getD pos 0 == 10) = true)) : ∃ sn', (S2 x s frs wt 19 pos oo ho mk sn none).step = S2 x s frs wt 19 pos oo ho mk sn' (some false) := by
 refine ⟨sn.add 16, ?_⟩
 by_cases hl : pos < x.size
 ·have h : (x.getD pos 0 == 10) = false := by cases q : x.getD pos 0 == 10 with | false => rfl | true => exact absurd ⟨hl, q⟩ h
  cases frs <;>
  ·show (if pos ≥ x.size then _ else match (Except.ok (x.getD pos 0 == 10, sn.add 16) : Except String (Bool × Sre.Seen)) with | .error why => _ | .ok (false, seen) => _ | .ok (true, seen) => _ : SM) = _
   rw [if_neg (by ktn_no "om"), h]; rfl
 ·cases frs <;>
  ·show (if pos ≥ x.size then _ else _ : SM) = _
   rw [if_pos (by ktn_no "om")]; rfl
theorem zg0 (hl : pos < x.size) (h : (x.getD pos 0 == 13) = true) : ∃ sn', (S2 x s frs wt 24 pos oo ho mk sn none).step = S2 x s frs wt 26 (pos + 1) oo ho mk sn' none := by
 refine ⟨sn.add 16, ?_⟩
 cases frs <;>
 ·show (if pos ≥ x.size then _ else match (Except.ok (x.getD pos 0 == 13, sn.add 16) : Except String (Bool × Sre.Seen)) with | .error why => _ | .ok (false, seen) => _ | .ok (true, seen) => _ : SM) = _
  rw [if_neg (by ktn_no "om"), h]; rfl
theorem zer (h : ¬ (pos < x.size ∧ (x.getD pos 0 == 10) = true)) : ∃ sn', (S2 x s frs wt 29 pos oo ho mk sn none).step = S2 x s frs wt 29 pos oo ho mk sn' (some false) := by
 refine ⟨sn.add 16, ?_⟩
 by_cases hl : pos < x.size
 ·have h : (x.getD pos 0 == 10) = false := by cases q : x.getD pos 0 == 10 with | false => rfl | true => exact absurd ⟨hl, q⟩ h
  cases frs <;>
  ·show (if pos ≥ x.size then _ else match (Except.ok (x.getD pos 0 == 10, sn.add 16) : Except String (Bool × Sre.Seen)) with | .error why => _ | .ok (false, seen) => _ | .ok (true, seen) => _ : SM) = _
   rw [if_neg (by ktn_no "om"), h]; rfl
 ·cases frs <;>
  ·show (if pos ≥ x.size then _ else _ : SM) = _
   rw [if_pos (by ktn_no "om")]; rfl
end
end
section
open PySem.Builtin.Re
noncomputable def nl (c : Nat) : Bool := c == 10 || c == 13
noncomputable def end2 (x : Array Nat) (t : Nat) : Nat := if x.getD t 0 == 13 ∧ (t + 1 < x.size ∧ (x.getD (t + 1) 0 == 10) = true) then t + 2 else t + 1
section
variable {x : Array Nat} {s t pc pos : Nat} {fo f1 oo : Bool} {ho : Nat} {mk : Array (Option Nat)} {sn : Sre.Seen} {r : Option (Nat × Nat)} {n wt : Nat} {frs : List Sre.Frame}
theorem zho (hl : t < x.size) (h : nl (x.getD t 0) = true) : Ends (S2 x t [NS t fo] 1 10 t oo ho mk sn none) 30 (some (t, end2 x t)) := by
 obtain ⟨sn1, e1⟩ := zfX (x := x) (s := t) (t := t) (fo := fo) (pos := t) (oo := oo) (ho := ho) (mk := mk) (sn := sn)
 refine Ends.step (n := 29) ?_ rfl
 rw [e1]
 by_cases h13 : (x.getD t 0 == 13) = true
 ·obtain ⟨sn2, e2⟩ := zhw (x := x) (s := t) (pos := t) (frs := [NB 11 t oo, NS t fo]) (wt := 2) (oo := oo) (ho := t) (mk := mk) (sn := sn1) hl h13
  refine Ends.step (n := 28) ?_ rfl
  rw [e2]
  by_cases h10 : t + 1 < x.size ∧ (x.getD (t + 1) 0 == 10) = true
  ·have ee : end2 x t = t + 2 := if_pos ⟨h13, h10⟩
   obtain ⟨sn3, e3⟩ := zg4 (x := x) (s := t) (pos := t + 1) (frs := [NB 11 t oo, NS t fo]) (wt := 2) (oo := oo) (ho := t) (mk := mk) (sn := sn2) h10.1 h10.2
   refine Ends.step (n := 27) ?_ rfl
   rw [e3]
   obtain ⟨sn4, e4⟩ := zfU (x := x) (s := t) (pos := t + 1 + 1) (frs := [NB 11 t oo, NS t fo]) (wt := 2) (oo := oo) (ho := t) (mk := mk) (sn := sn3)
   refine Ends.step (n := 26) ?_ rfl
   rw [e4]
   obtain ⟨sn5, e5⟩ := s2_ok (x := x) (s := t) (pos := t + 1 + 1) (frs := [NB 11 t oo, NS t fo]) (wt := 2) (oo := oo) (ho := t) (mk := mk) (sn := sn4)
   refine Ends.step (n := 25) ?_ rfl
   rw [e5, ee]
   exact Ends.mono zd5 (by ktn_no "om")
  ·have ee : end2 x t = t + 1 := if_neg (fun z => h10 z.2)
   obtain ⟨sn3, e3⟩ := zen (x := x) (s := t) (pos := t + 1) (frs := [NB 11 t oo, NS t fo]) (wt := 2) (oo := oo) (ho := t) (mk := mk) (sn := sn2) h10
   refine Ends.step (n := 27) ?_ rfl
   rw [e3]
   refine Ends.step (n := 26) ?_ rfl
   rw [zgo]
   have hn10 : ¬ (t < x.size ∧ (x.getD t 0 == 10) = true) := fun z => by
    have a := eq_of_beq h13
    have b := eq_of_beq z.2
    rw [a] at b; cases b
   obtain ⟨sn4, e4⟩ := zd1 (x := x) (s := t) (pos := t) (frs := [NB 18 t oo, NS t fo]) (wt := 2) (oo := oo) (ho := t) (mk := mk) (sn := sn3) hn10
   refine Ends.step (n := 25) ?_ rfl
   rw [e4]
   refine Ends.step (n := 24) ?_ rfl
   rw [s2_alt3]
   obtain ⟨sn5, e5⟩ := zg0 (x := x) (s := t) (pos := t) (frs := [NB 23 t oo, NS t fo]) (wt := 2) (oo := oo) (ho := t) (mk := mk) (sn := sn4) hl h13
   refine Ends.step (n := 23) ?_ rfl
   rw [e5]
   obtain ⟨sn6, e6⟩ := s2_look (x := x) (s := t) (t := t) (f1 := oo) (fo := fo) (pos := t + 1) (oo := oo) (ho := t) (mk := mk) (sn := sn5)
   refine Ends.step (n := 22) ?_ rfl
   rw [e6]
   obtain ⟨sn7, e7⟩ := zer (x := x) (s := t) (pos := t + 1) (frs := [LN (t + 1) oo, NB 23 t oo, NS t fo]) (wt := 3) (oo := false) (ho := t + 1) (mk := mk) (sn := sn6) h10
   refine Ends.step (n := 21) ?_ rfl
   rw [e7]
   refine Ends.step (n := 20) ?_ rfl
   rw [zfx]
   obtain ⟨sn8, e8⟩ := zfI (x := x) (s := t) (pos := t + 1) (frs := [NB 23 t oo, NS t fo]) (wt := 2) (oo := oo) (ho := t + 1) (mk := mk) (sn := sn7)
   refine Ends.step (n := 19) ?_ rfl
   rw [e8]
   obtain ⟨sn9, e9⟩ := s2_ok (x := x) (s := t) (pos := t + 1) (frs := [NB 23 t oo, NS t fo]) (wt := 2) (oo := oo) (ho := t + 1) (mk := mk) (sn := sn8)
   refine Ends.step (n := 18) ?_ rfl
   rw [e9, ee]
   exact Ends.mono zd5 (by ktn_no "om")
 ·have h10 : (x.getD t 0 == 10) = true := by
   unfold nl at h
   cases q : x.getD t 0 == 10 with
   | true => rfl
   | false => rw [q] at h; exact absurd (by simpa using h) (by simpa using h13)
  have ee : end2 x t = t + 1 := if_neg (fun z => h13 z.1)
  obtain ⟨sn2, e2⟩ := zd4 (x := x) (s := t) (pos := t) (frs := [NB 11 t oo, NS t fo]) (wt := 2) (oo := oo) (ho := t) (mk := mk) (sn := sn1) (fun z => h13 z.2)
  refine Ends.step (n := 28) ?_ rfl
  rw [e2]
  refine Ends.step (n := 27) ?_ rfl
  rw [zgo]
  obtain ⟨sn3, e3⟩ := zhf (x := x) (s := t) (pos := t) (frs := [NB 18 t oo, NS t fo]) (wt := 2) (oo := oo) (ho := t) (mk := mk) (sn := sn2) hl h10
  refine Ends.step (n := 26) ?_ rfl
  rw [e3]
  obtain ⟨sn4, e4⟩ := zgS (x := x) (s := t) (pos := t + 1) (frs := [NB 18 t oo, NS t fo]) (wt := 2) (oo := oo) (ho := t) (mk := mk) (sn := sn3)
  refine Ends.step (n := 25) ?_ rfl
  rw [e4]
  obtain ⟨sn5, e5⟩ := s2_ok (x := x) (s := t) (pos := t + 1) (frs := [NB 18 t oo, NS t fo]) (wt := 2) (oo := oo) (ho := t) (mk := mk) (sn := sn4)
  refine Ends.step (n := 24) ?_ rfl
  rw [e5, ee]
  exact Ends.mono zd5 (by ktn_no "om")
theorem inSet2 (c : Nat) (sn : Sre.Seen) : ∃ sn', Sre.inSet code2 c 36 5 true sn = .ok (nl c, sn') := by
 unfold nl
 cases h1 : c == 10 with
 | true =>
  refine ⟨sn.add 16, ?_⟩
  show (if (c == 10) = true then _ else _ : Except String (Bool × Sre.Seen)) = _
  rw [h1]; rfl
 | false =>
  cases h2 : c == 13 with
  | true =>
   refine ⟨(sn.add 16).add 16, ?_⟩
   show (if (c == 10) = true then _ else (if (c == 13) = true then _ else _) : Except String (Bool × Sre.Seen)) = _
   rw [h1, h2]; rfl
  | false =>
   refine ⟨((sn.add 16).add 16).add 0, ?_⟩
   show (if (c == 10) = true then _ else (if (c == 13) = true then _ else _) : Except String (Bool × Sre.Seen)) = _
   rw [h1, h2]; rfl
noncomputable def first2 (x : Array Nat) : Nat → Nat → Option Nat
 | 0, _ => none
 | k + 1, s => if s ≥ x.size then none else if nl (x.getD s 0) then some s else first2 x k (s + 1)
theorem zgv {m : SM} (h1 : m.code = code2) (h2 : m.text = x) (h3 : m.lim = x.size) : ∀ (k s : Nat) (sn : Sre.Seen), ∃ sn', Sre.M.admitted m k s sn = .ok (first2 x k s, sn') := by
 intro k
 induction k with
 | zero =>
  intro s sn
  exact ⟨sn, rfl⟩
 | succ k ih =>
  intro s sn
  unfold Sre.M.admitted first2
  rw [h1, h2, h3]
  by_cases h : s ≥ x.size
  ·rw [if_pos h, if_pos h]; exact ⟨sn, rfl⟩
  ·rw [if_neg h, if_neg h]
   obtain ⟨sn', e⟩ := inSet2 (x.getD s 0) sn
   rw [show code2.size = 36 from rfl, e]
   cases hn : nl (x.getD s 0) with
   | true => exact ⟨sn', by rw [if_pos rfl]⟩
   | false =>
    rw [if_neg (by decide)]
    exact ih (s + 1) sn'
theorem zcd : ∀ (k s t : Nat), first2 x k s = some t → s ≤ t ∧ t < x.size ∧ nl (x.getD t 0) = true := by
 intro k
 induction k with
 | zero =>
  intro _ _ h
  cases h
 | succ k ih =>
  intro s t h
  unfold first2 at h
  split at h
  ·cases h
  ·split at h
   ·cases h; exact ⟨Nat.le_refl _, by ktn_no "o4", by assumption⟩
   ·obtain ⟨a, b, c⟩ := ih (s + 1) t h
    exact ⟨by ktn_no "o4", b, c⟩
noncomputable def find2 (x : Array Nat) (s : Nat) : Option (Nat × Nat) := if s < x.size then (first2 x (x.size + 1 - s) s).map fun t => (t, end2 x t) else none
theorem zdo {must : Bool} (hs : s ≤ x.size) : Ends (Sre.forSearch code2 x 0 s x.size must) 40 (find2 x s) := by
 unfold find2
 by_cases h : s < x.size
 ·rw [if_pos h]
  have e : Sre.forSearch code2 x 0 s x.size must = _ := show (if (decide (s > x.size) || decide (x.size - s < 1)) = true then _ else Sre.M.attemptFrom { code := code2, text := x, lim := x.size, start := s, pc := 10, pos := s, handed := s, marks := Array.replicate (2 * 0) none, mustAdvance := must, seen := ({} : Sre.Seen).add 14, lastStart := x.size } s true : SM) = _ by rw [if_neg (by simp; exact ⟨hs, Nat.ne_of_gt (Nat.sub_pos_of_lt h)⟩)]
  rw [e]
  unfold Sre.M.attemptFrom
  rw [if_neg (by show ¬ (!true) = true; decide)]
  obtain ⟨sn', ea⟩ := zgv (x := x) (m := { code := code2, text := x, lim := x.size, start := s, pc := 10, pos := s, handed := s, marks := Array.replicate (2 * 0) none, mustAdvance := must, seen := ({} : Sre.Seen).add 14, lastStart := x.size }) rfl rfl rfl (x.size + 1 - s) s (({} : Sre.Seen).add 14)
  dsimp only at ea ⊢
  rw [ea]
  cases hf : first2 x (x.size + 1 - s) s with
  | none => exact Ends.mono (n := 1) rfl (by ktn_no "om")
  | some t =>
   (refine x0_3 (zcd _ _ _ hf) ?_; intro a b c)
   dsimp only [Option.map]
   have := zho (x := x) (t := t) (fo := true) (oo := true) (ho := t) (mk := Array.replicate (2 * 0) none) (sn := sn') b c
   exact Ends.mono (n := 30) this (by ktn_no "om")
 ·rw [if_neg h]
  have e : Sre.forSearch code2 x 0 s x.size must = _ := show (if (decide (s > x.size) || decide (x.size - s < 1)) = true then _ else _ : SM) = _ by rw [if_pos (by simp; exact .inr (Nat.sub_eq_zero_of_le (Nat.le_of_not_lt h)))]
  rw [e]
  exact Ends.mono (n := 1) rfl (by ktn_no "om")
end
end
section
open PySem.Builtin.Re
noncomputable abbrev a_re1 : Addr := 225
noncomputable abbrev a_re2 : Addr := 230
section
variable {w : World} {A : Around} {E : Value → Shared → Prop} {h : Heap} {g : Array GenState} {d : Drawn} {tk : Nat} {os : OsState} {x rp : PySem.Str} {tx tr : Tok}
noncomputable def fldsOf (o : Obj) : Array Value := match o.data with | .fields vs => vs | _ => #[]
noncomputable def seqOf (o : Obj) : Array Value := match o.data with | .seq vs _ => vs | _ => #[]
noncomputable def seqN (o : Obj) : Nat := match o.data with | .seq _ n => n | _ => 0
structure Pat (h : Heap) (p : Addr) (code : Array Nat) : Prop where
 obj : ∃ o vs ct, h.get? p = some o ∧ o.cls = .type "re.Pattern" ∧ o.dict = none ∧ o.data = .fields vs ∧ reRawNat (vs.getD 6 .none) = 0 ∧ reRawNat (vs.getD 2 .none) = 0 ∧ vs.getD 5 .none = .ref ct ∧ ∃ oc ws n, h.get? ct = some oc ∧ oc.data = .seq ws n ∧ (ws.map reRawOf).map (·.toNat) = code
theorem get_K {P : Params} {a : Addr} (e : ((KF P).lookup a).isSome = true) : (KF P).lookup a = some ((KF P).lookup a).get! := by
 cases q : (KF P).lookup a with
 | none => rw [q] at e; cases e
 | some o => rfl
theorem pat_of {p : Addr} {code : Array Nat} (X : (KF w.params).In h) (h1 : ((KF w.params).lookup p).isSome = true) (h2 : ((KF w.params).lookup p).get!.cls = .type "re.Pattern") (h3 : ((KF w.params).lookup p).get!.dict = none) (h4 : ((KF w.params).lookup p).get!.data = .fields (fldsOf ((KF w.params).lookup p).get!))
  (h5 : reRawNat ((fldsOf ((KF w.params).lookup p).get!).getD 6 .none) = 0) (h6 : reRawNat ((fldsOf ((KF w.params).lookup p).get!).getD 2 .none) = 0) (ct : Addr) (h7 : (fldsOf ((KF w.params).lookup p).get!).getD 5 .none = .ref ct) (h8 : ((KF w.params).lookup ct).isSome = true) (h9 : ((KF w.params).lookup ct).get!.data = .seq (seqOf ((KF w.params).lookup ct).get!) (seqN ((KF w.params).lookup ct).get!))
  (h10 : ((seqOf ((KF w.params).lookup ct).get!).map reRawOf).map (·.toNat) = code) : Pat h p code :=
 ⟨_, _, ct, X _ _ (get_K h1), h2, h3, h4, h5, h6, h7, _, _, _, X _ _ (get_K h8), h9, h10⟩
theorem pat1 (X : (KF w.params).In h) : Pat h a_re1 code1 := pat_of X (by kernel_rfl) (by kernel_rfl) (by kernel_rfl) (by kernel_rfl) (by kernel_rfl) (by kernel_rfl) 224 (by kernel_rfl) (by kernel_rfl) (by kernel_rfl) (by kernel_rfl)
theorem pat2 (X : (KF w.params).In h) : Pat h a_re2 code2 := pat_of X (by kernel_rfl) (by kernel_rfl) (by kernel_rfl) (by kernel_rfl) (by kernel_rfl) (by kernel_rfl) 229 (by kernel_rfl) (by kernel_rfl) (by kernel_rfl) (by kernel_rfl)
theorem zdj {p : Addr} {code : Array Nat} {Q : ReTarget → Shared → Prop} (P : Pat h p code) (q : Q ⟨.ref p, .str x tx, code, x.cps, 0, 0, 0, x.cps.size⟩ ⟨h, g, d, tk, os⟩) : wpAny (M w) A (reWholeTarget (.ref p) (.str x tx)) Q E ⟨h, g, d, tk, os⟩ := by
 obtain ⟨o, vs, ct, hp, hc, hd, hf, h6, h2, h5, oc, ws, n, hct, hws, hw⟩ := P.obj
 unfold reWholeTarget reTextOf reNoCollectionInside reRawItems
 refine wpAny_bind (wpAny_fieldsOf hp hf ?_)
 refine wpAny_bind (wpAny_bind (wpAny_of_eq (show asStr? (.str x tx) = pure (some x) from rfl) (wpAny_pure ?_)))
 dsimp only
 rw [h6, h2, h5]
 rw [if_neg (by decide), if_neg (by decide), if_neg (by decide)]
 refine wpAny_bind (wpAny_pure (wpAny_bind (wpAny_bind (wpAny_seqItems hct hws (wpAny_pure (wpAny_pure ?_))))))
 have e : Array.map (fun x => x.toNat) (Array.map reRawOf ((some ws).getD #[])) = code := hw
 rw [e]
 exact q
noncomputable def subGo (find : Nat → Option (Nat × Nat)) (x rp : PySem.Str) : Nat → Nat → List PySem.Str
 | 0, _ => []
 | k + 1, dn => match find dn with
  | some (a, b) => (if dn < a then [⟨x.cps.extract dn a⟩] else []) ++ rp :: subGo find x rp k b
  | none => if dn < x.cps.size then [⟨x.cps.extract dn x.cps.size⟩] else []
variable {B : Heap} {L : Addr} {m : PySem.Str → Option Value} {cl : List (PySem.Str × Addr)} {cm : PySem.Str → Option Value} {rest : List (Addr × Obj)} {s₀ : Shared} {d₀ : Drawn} {tk₀ : Nat} {p lp : Addr} {code : Array Nat} {find : Nat → Option (Nat × Nat)} {N : Nat} {R : Result → Shared → Prop}
theorem za0 {l : List (PySem.Str × Tok)} {nl : Nat} {z : PySem.Str} {t : Tok} {Q : Unit → Shared → Prop} (F : Fm w B L cl s₀ m cm ((lp, lsO (strValues l) nl) :: rest) ⟨h, g, d₀, tk₀, os⟩) (hz : l.length ≤ 100000)
  (q : ∀ h' nl', Fm w B L cl s₀ m cm ((lp, lsO (strValues (l ++ [(z, t)])) nl') :: rest) ⟨h', g, d, tk, os⟩ → Q () ⟨h', g, d, tk, os⟩) : wpAny (M w) A (updateSeq lp (·.push (.str z t))) Q E ⟨h, g, d, tk, os⟩ := by
 refine zal (F.at 0 rfl) (by simpa [strValues] using hz) (by simp [strValues]; ktn_no "o4") fun h' n' hs hx => ?_
 have e : (strValues l).toArray.push (.str z t) = (strValues (l ++ [(z, t)])).toArray := by simp [strValues]
 exact q h' n' (F.set1 (i := 0) (o' := ⟨.type "list", none, .seq (strValues (l ++ [(z, t)])).toArray n', #[]⟩) rfl hs (by rw [← e]; exact hx))
theorem zcO {a b : Nat} {Q : Value → Shared → Prop} (hx : x.length ≤ 100000) (q : Q (.str ⟨x.cps.extract a b⟩ tk) ⟨h, g, d, tk + 1, os⟩) : wpAny (M w) A (reSlice x.cps 0 a b) Q E ⟨h, g, d, tk, os⟩ := by
 unfold reSlice
 (ktn_no "iP"; exact (by decide))
 refine wpAny_mkStr' q (Nat.le_trans ?_ (Nat.le_trans hx (by decide)))
 rw [show (⟨x.cps.extract a b⟩ : PySem.Str).length = min b x.cps.size - a from Array.size_extract]
 exact Nat.le_trans (Nat.sub_le _ _) (Nat.min_le_right _ _)
theorem zha (hP : ∀ h, (KF w.params).In h → Pat h p code) (hcl : A.units < cLine) (hx : x.length ≤ 20000) (hN : N ≤ 2 ^ 64)
  (hf : ∀ (dn : Nat) (must : Bool), dn ≤ x.cps.size → Ends (Sre.forSearch code x.cps 0 dn x.cps.size must) N (find dn)) (hfb : ∀ dn a b, find dn = some (a, b) → dn ≤ a ∧ a < b ∧ b ≤ x.cps.size) :
  ∀ (k dn : Nat) (l : List (PySem.Str × Tok)) (nl cnt : Nat) (must : Bool) (h : Heap) (g : Array GenState) (d : Drawn) (tk : Nat), dn ≤ x.cps.size → x.cps.size < dn + k → l.length ≤ 2 * dn → Fm w B L cl s₀ m cm ((lp, lsO (strValues l) nl) :: rest) ⟨h, g, d₀, tk₀, os⟩ →
   JoinOk ⟨#[]⟩ (l.map (·.1) ++ subGo find x rp k dn) = true →
   (∀ h' tk' t, Fm w B L cl s₀ m cm rest ⟨h', g, d, tk', os⟩ → R (.ok (.ret (.str (Txt.join ⟨#[]⟩ (l.map (·.1) ++ subGo find x rp k dn)) t))) ⟨h', g, d, tk', os⟩) →
   codeAny (M w) A (.builtin "re.Pattern.sub.loop" ⟨[.ref p, .str x tx, .str rp tr, rawInt 0, rawInt 0, rawInt cnt, rawInt dn, rawInt dn, .bool must, .ref lp, .bool false], []⟩) R ⟨h, g, d, tk, os⟩ := by
 intro k
 induction k with
 | zero =>
  intro dn l nl cnt must h g d tk h1 h2 h3 F hj hq
  exact absurd h2 (Nat.not_lt_of_le h1)
 | succ k ih =>
  intro dn l nl cnt must h g d tk h1 h2 h3 F hj hq
  have hl2 : l.length ≤ 2 * 20000 := Nat.le_trans h3 (Nat.mul_le_mul_left 2 (Nat.le_trans h1 hx))
  refine codeAny_builtin (entryFor_of_tree (by kernel_rfl) : entryFor table "re.Pattern.sub.loop" = some Builtin.«re.Pattern.sub.loop») ?_
  rw [Around.under_plainId (by decide +kernel) _]
  unfold Builtin.«re.Pattern.sub.loop»
  dsimp only [rawInt]
  refine wpAny_bind (zdj (hP _ F.K) ?_)
  (ktn_no "iP"; exact (by decide))
  unfold reLiteralCannotBeTurned
  refine wpAny_bind (wpAny_bind (wpAny_of_eq (show asStr? (.str rp tr) = pure (some rp) from rfl) ?_))
  (ktn_no "iN"; exact (show ¬ ((some rp).isNone) = true from Bool.false_ne_true))
  refine wpAny_pure ?_
  refine wpAny_bind ?_
  (ktn_no "iN"; exact (by simp))
  unfold reNextFound
  simp only [Int.toNat_natCast]
  refine runEnd (hf dn must h1) hN fun o ho => ?_
  cases hfd : find dn with
  | none =>
   rw [hfd] at ho
   dsimp only at ho
   subst ho
   dsimp only
   have fin : ∀ (l' : List (PySem.Str × Tok)) (nl' : Nat) (h' : Heap) (tk' : Nat), l'.map (·.1) = l.map (·.1) ++ subGo find x rp (k + 1) dn → Fm w B L cl s₀ m cm ((lp, lsO (strValues l') nl') :: rest) ⟨h', g, d, tk', os⟩ →
     wpAny (model pw w) A.in1 (do
      let joiner ← reSlice x.cps 0 0 0
      let __do_lift ← seqItems? (Value.ref lp)
      if (__do_lift.getD #[]).isEmpty = true then do
       let text ← pure joiner
       if false = true then do
        let __do_lift ← holding [text] do
          let __do_lift ← mkInt ↑cnt
          newTuple [text, __do_lift]
        ret __do_lift
       else ret text
      else do
       let text ← call (Value.builtin (if ((0 : Nat) == 0) = true then "str.join" else "bytes.join")) [joiner, Value.ref lp]
       if false = true then do
        let __do_lift ← holding [text] do
          let __do_lift ← mkInt ↑cnt
          newTuple [text, __do_lift]
        ret __do_lift
       else ret text)
      (fun fin s' => match fin with
       | Fin.done f => R (Except.ok f) s'
       | Fin.again c' => c'.quiet = true ∧ codeAny (model pw w) A c' R s')
      (fun e s' => R (Except.error e) s') ⟨h', g, d, tk', os⟩ := fun l' nl' h' tk' hl' F' => by
    refine wpAny_bind (zcO (by ktn_no "om") ?_)
    refine wpAny_bind (wpAny_seqItems (F'.at 0 rfl) rfl ?_)
    have ej : (⟨x.cps.extract 0 0⟩ : PySem.Str) = ⟨#[]⟩ := by simp
    rw [ej]
    cases hl0 : l' with
    | nil =>
     subst hl0
     (ktn_no "iP"; exact (show ((some (strValues []).toArray).getD #[]).isEmpty = true from rfl))
     refine wpAny_bind (wpAny_pure ?_)
     (ktn_no "iN"; exact (by decide))
     have := hq h' (tk' + 1) tk' ((F'.drop 1).withD)
     rw [← hl'] at this
     exact wpAny_pure this
    | cons y l2 =>
     (ktn_no "iN"; exact (by simp [strValues]))
     refine wpAny_bind ?_
     rw [if_pos (show ((0 : Nat) == 0) = true from rfl)]
     refine zaZ (F'.at 0 rfl) (.inl rfl) rfl (by rw [hl']; exact hj) fun t' k' => ?_
     rw [if_neg (by decide), hl']
     exact wpAny_pure (hq h' k' t' ((F'.drop 1).withD))
   have eg : subGo find x rp (k + 1) dn = if dn < x.cps.size then [⟨x.cps.extract dn x.cps.size⟩] else [] := by unfold subGo; rw [hfd]
   by_cases hlt : dn < x.cps.size
   ·(ktn_no "iP"; exact hlt)
    rw [if_pos hlt] at eg
    refine wpAny_bind (zcO (by ktn_no "om") ?_)
    refine wpAny_bind (za0 F (Nat.le_trans hl2 (by decide)) fun h' nl' F' => ?_)
    exact fin _ _ _ _ (by rw [eg]; simp) F'
   ·(ktn_no "iN"; exact hlt)
    rw [if_neg hlt] at eg
    exact fin _ _ _ _ (by rw [eg]; simp) F.withD
  | some ab =>
   obtain ⟨a, b⟩ := ab
   rw [hfd] at ho
   (refine x1_3 (ho) ?_; try clear ho; intro m' eqX1 eqX2 eqX3; subst eqX1; subst eqX2; subst eqX3)
   (refine x0_3 (hfb dn _ _ hfd) ?_; intro q1 q2 q3)
   have hL : l.length + 2 ≤ 2 * m'.handed := Nat.le_trans (Nat.add_le_add_right h3 2) (Nat.mul_le_mul_left 2 (Nat.lt_of_le_of_lt q1 q2))
   have hM : x.cps.size < m'.handed + k := Nat.lt_of_lt_of_le h2 (Nat.le_trans (Nat.le_of_eq (Nat.succ_add_eq_add_succ dn k).symm) (Nat.add_le_add_right (Nat.lt_of_le_of_lt q1 q2) k))
   have eg : subGo find x rp (k + 1) dn = (if dn < m'.start then [⟨x.cps.extract dn m'.start⟩] else []) ++ rp :: subGo find x rp k m'.handed := by conv => lhs; unfold subGo; rw [hfd]
   dsimp only
   by_cases hlt : dn < m'.start
   ·rw [if_pos hlt] at eg ⊢
    refine wpAny_bind (zcO (by ktn_no "om") ?_)
    refine wpAny_bind (za0 F (Nat.le_trans hl2 (by decide)) fun h' nl' F' => ?_)
    (ktn_no "iP"; exact (by decide))
    refine wpAny_bind (wpAny_pure ?_)
    (ktn_no "iP"; exact (show (Value.str rp tr != Value.none) = true from rfl))
    refine wpAny_bind (za0 F' (by simp; exact Nat.le_trans hl2 (by decide)) fun h'' nl'' F'' => ?_)
    refine wpAny_pure ⟨plainId_quiet (by decide +kernel) _, ?_⟩
    refine ih m'.handed (l ++ [(⟨x.cps.extract dn m'.start⟩, tk)] ++ [(rp, tr)]) nl'' (cnt + 1) _ _ _ _ _ q3 hM (by simp; exact hL) F''.withD (by rw [eg] at hj; simpa using hj) fun h3 tk3 t3 F3 => ?_
    have := hq h3 tk3 t3 F3
    rw [eg] at this
    simpa using this
   ·rw [if_neg hlt] at eg ⊢
    (ktn_no "iP"; exact (by decide))
    refine wpAny_bind (wpAny_pure ?_)
    (ktn_no "iP"; exact (show (Value.str rp tr != Value.none) = true from rfl))
    refine wpAny_bind (za0 F (Nat.le_trans hl2 (by decide)) fun h'' nl'' F'' => ?_)
    refine wpAny_pure ⟨plainId_quiet (by decide +kernel) _, ?_⟩
    refine ih m'.handed (l ++ [(rp, tr)]) nl'' (cnt + 1) _ _ _ _ _ q3 hM (by simp; exact Nat.le_of_succ_le hL) F''.withD (by rw [eg] at hj; simpa using hj) fun h3 tk3 t3 F3 => ?_
    have := hq h3 tk3 t3 F3
    rw [eg] at this
    simpa using this
end
end
section
open PySem.Builtin.Re
section
variable {w : World} {A : Around} {E : Value → Shared → Prop} {h : Heap} {g : Array GenState} {d : Drawn} {tk : Nat} {os : OsState} {x rp : PySem.Str} {tx tr : Tok} {B : Heap} {L : Addr} {m : PySem.Str → Option Value} {cl : List (PySem.Str × Addr)} {cm : PySem.Str → Option Value} {rest : List (Addr × Obj)} {s₀ : Shared} {d₀ : Drawn} {tk₀ : Nat} {p : Addr} {code : Array Nat} {find : Nat → Option (Nat × Nat)} {N : Nat} {Q : Value → Shared → Prop}
theorem re_sub (hP : ∀ h, (KF w.params).In h → Pat h p code) (hcl : A.units < cLine) (hx : x.length ≤ 20000) (hN : N ≤ 2 ^ 64) (hrp : rp.cps.contains 92 = false)
  (hf : ∀ (dn : Nat) (must : Bool), dn ≤ x.cps.size → Ends (Sre.forSearch code x.cps 0 dn x.cps.size must) N (find dn)) (hfb : ∀ dn a b, find dn = some (a, b) → dn ≤ a ∧ a < b ∧ b ≤ x.cps.size)
  (F : Fm w B L cl s₀ m cm rest ⟨h, g, d₀, tk₀, os⟩) (hj : JoinOk ⟨#[]⟩ (subGo find x rp (x.cps.size + 1) 0) = true)
  (hq : ∀ h' tk' t, Fm w B L cl s₀ m cm rest ⟨h', g, d, tk', os⟩ → Q (.str (Txt.join ⟨#[]⟩ (subGo find x rp (x.cps.size + 1) 0)) t) ⟨h', g, d, tk', os⟩) :
  wpAny (M w) A (call (.builtin "re.Pattern.sub") [.ref p, .str rp tr, .str x tx]) Q E ⟨h, g, d, tk, os⟩ := by
 have P := hP h F.K
 obtain ⟨o, vs, ct, hp, hc, hd, hfl, h6, h2, h5, oc, ws, n, hct, hws, hw⟩ := P.obj
 have hi : Looks (model pw w) h (isInstance (.ref p) (.type "re.Pattern")) true := zah hp F.K (by rw [hc]; ktn_no "k_ev")
 refine wpAny_call (codeAny_call_builtin (by decide +kernel) (entryFor_of_tree (by kernel_rfl) : entryFor table "re.Pattern.sub" = some Builtin.«re.Pattern.sub») (zeO (owner := "re.Pattern") (n := "sub") (by first | exact .inr (by decide +kernel) | exact .inl (by decide +kernel)) (by decide +kernel) hi (by unfold argsOk; kernel_rfl) ?_))
 unfold Builtin.«re.Pattern.sub» reSubstitute
 dsimp only
 refine wpAny_bind (wpAny_of_eq (show reNamed "re.Pattern.sub" "sub" ["repl", "string", "count"] 2 [.str rp tr, .str x tx] [] = pure [some (.str rp tr), some (.str x tx), none] from by kernel_rfl) ?_)
 dsimp only
 refine wpAny_bind (wpAny_pure (wpAny_bind ?_))
 refine zbj F.K (r := none) (by ktn_no "k_ev") ?_
 (ktn_no "iN"; exact (by decide))
 refine wpAny_bind (wpAny_of_eq (show asStr? (.str rp tr) = pure (some rp) from rfl) ?_)
 dsimp only
 refine wpAny_bind (wpAny_pure ?_)
 rw [if_neg (by decide), hrp, if_pos (by decide)]
 refine wpAny_bind (wpAny_pure (wpAny_bind (wpAny_holding (zdj P ?_))))
 dsimp only
 (ktn_no "iN"; exact (by decide))
 refine wpAny_bind (zap (by simp) ?_)
 have F₁ := F.push1 (g := g) (d := d) (tk := tk) (lsO [] 0)
 refine wpAny_pure ⟨plainId_quiet (by decide +kernel) _, ?_⟩
 refine zha hP hcl hx hN hf hfb (x.cps.size + 1) 0 [] 0 0 false _ _ _ _ (Nat.zero_le _) (by ktn_no "om") (by simp) F₁ (by simpa using hj) fun h' tk' t F' => ?_
 exact hq h' tk' t F'
end
end
section
open PySem.Builtin.Re
noncomputable def find1' (x : Array Nat) (s : Nat) : Option (Nat × Nat) := if s < x.size then find1 x (x.size - s + 1) s else none
theorem zfN (x : Array Nat) : ∀ k s a b, find1 x k s = some (a, b) → s ≤ a ∧ a < b ∧ b ≤ x.size
 | 0, _, _, _, h => by cases h
 | k + 1, s, a, b, h => by
  unfold find1 at h
  split at h
  ·rename_i hh
   cases h
   have : s < x.size := by
    unfold hit1 at hh
    simp only [Bool.and_eq_true, decide_eq_true_eq] at hh
    exact hh.2.1
   exact ⟨Nat.le_refl _, Nat.lt_succ_self _, this⟩
  ·split at h
   ·have := zfN x k (s + 1) a b h; exact ⟨Nat.le_of_succ_le this.1, this.2⟩
   ·cases h
theorem find1'_b (x : Array Nat) (s a b : Nat) (h : find1' x s = some (a, b)) : s ≤ a ∧ a < b ∧ b ≤ x.size := by
 unfold find1' at h
 split at h
 ·exact zfN x _ _ _ _ h
 ·cases h
theorem zfR {x : Array Nat} {t : Nat} (ht : t < x.size) : t < end2 x t ∧ end2 x t ≤ x.size := by
 unfold end2
 by_cases q : (x.getD t 0 == 13) = true ∧ t + 1 < x.size ∧ (x.getD (t + 1) 0 == 10) = true
 ·rw [if_pos q]; exact ⟨Nat.lt_add_of_pos_right (by decide), q.2.1⟩
 ·rw [if_neg q]; exact ⟨Nat.lt_succ_self _, ht⟩
theorem find2_b (x : Array Nat) (s a b : Nat) (h : find2 x s = some (a, b)) : s ≤ a ∧ a < b ∧ b ≤ x.size := by
 unfold find2 at h
 split at h
 ·cases q : first2 x (x.size + 1 - s) s with
  | none => rw [q] at h; cases h
  | some t =>
   rw [q] at h
   (refine x0_3 (zcd _ _ _ q) ?_; intro c1 c2 c3)
   have h : some (t, end2 x t) = some (a, b) := h
   injection h with h
   injection h with ha hb
   subst ha
   rw [← hb]
   exact ⟨c1, zfR c2⟩
 ·cases h
noncomputable abbrev crlfS : PySem.Str := Str.ofString "\r\n"
noncomputable abbrev dotsS : PySem.Str := Str.ofString ".."
noncomputable def quote1 (x : PySem.Str) : PySem.Str := Txt.join ⟨#[]⟩ (subGo (find2 x.cps) x crlfS (x.cps.size + 1) 0)
noncomputable def quote2 (x : PySem.Str) : PySem.Str := Txt.join ⟨#[]⟩ (subGo (find1' x.cps) x dotsS (x.cps.size + 1) 0)
noncomputable def QOk (x : PySem.Str) : Prop := x.length ≤ 10000 ∧ JoinOk ⟨#[]⟩ (subGo (find2 x.cps) x crlfS (x.cps.size + 1) 0) = true ∧ (quote1 x).length ≤ 20000 ∧ JoinOk ⟨#[]⟩ (subGo (find1' (quote1 x).cps) (quote1 x) dotsS ((quote1 x).cps.size + 1) 0) = true
section
variable {w : World} {A : Around} {E : Value → Shared → Prop} {h : Heap} {g : Array GenState} {d : Drawn} {tk : Nat} {os : OsState} {x rp : PySem.Str} {tx tr : Tok} {B : Heap} {L : Addr} {m : PySem.Str → Option Value} {cl : List (PySem.Str × Addr)} {cm : PySem.Str → Option Value} {rest : List (Addr × Obj)} {s₀ s : Shared} {d₀ : Drawn} {tk₀ : Nat} {p : Addr} {code : Array Nat} {n : Nat}
theorem zco {Q : Value × List Value → Shared → Prop} {pl : Sem Bool} (X : (KF w.params).In h) (P : Pat h p code) (q : Q (.builtin "re.Pattern.sub", [.ref p]) ⟨h, g, d, tk, os⟩) : wpAny (M w) A (getMethod (.ref p) "sub" pl) Q E ⟨h, g, d, tk, os⟩ := by
 (refine x3_4 (P.obj) ?_; intro o vs ct hp hc hd _)
 unfold getMethod
 refine wpAny_bind (zaa hp X (r := some (.builtin "object.__getattribute__")) (by rw [hc]; ktn_no "k_ev") ?_)
 dsimp only
 (ktn_no "iN"; exact (by decide +kernel))
 refine wpAny_bind (zaa hp X (r := none) (by rw [hc]; ktn_no "k_ev") ?_)
 (ktn_no "iN"; exact (by decide))
 refine wpAny_bind (zaa hp X (r := some (.builtin "re.Pattern.sub")) (by rw [hc]; ktn_no "k_ev") ?_)
 dsimp only
 refine wpAny_bind (za6 X (t := .type "method_descriptor") (by ktn_no "k_ev") ?_)
 (ktn_no "iN"; exact (by decide))
 refine wpAny_bind (wpAny_loadPart hp ?_)
 rw [hd]
 exact wpAny_bind (wpAny_rule (wpAny_pure q))
theorem zbc {Q : Value → Shared → Prop} (R : Room (n + 10) A) (F : Fm w B L cl s₀ m cm rest s) (hx : QOk x)
  (hq : ∀ t s', Fm w B L cl s₀ m cm rest s' → Q (.str (quote2 (quote1 x)) t) s') : wpAny (M w) A (call (.ref a_quotedata) [.str x tx] []) Q E s := by
 (refine x0_4 (hx) ?_; try clear hx; intro h1 h2 h3 h4)
 refine zam (binds := [("data", .str x tx)]) (fd := fd_quotedata) (cmF := fun _ => none) R F (zdv _) (zdC _) rfl (BindsTo.of_eq rfl) (by decide) (by kernel_rfl) (fun _ _ e => (by cases e)) (fun _ _ _ e => (by cases e)) ?_ rfl rfl rfl
 intro Qo hQo L' s₁ hL F₁ R₁
 obtain ⟨h₁, g₁, d₁, k₁, o₁⟩ := s₁
 ktn_no "ast"
 ktn_no "y"
 refine zco F₁.K (pat1 F₁.K) ?_
 ktn_no "y"
 refine zco F₁.K (pat2 F₁.K) ?_
 ktn_no "y"
 refine re_sub (N := 40) (find := find2 x.cps) (code := code2) (fun h X => pat2 X) R₁.cl (by ktn_no "om") (by decide) (by kernel_rfl) (fun dn must hd => zdo hd) (fun dn a b => find2_b _ _ _ _) F₁ h2 fun h₂ k₂ t₂ F₂ => ?_
 ktn_no "y"
 refine re_sub (N := 5 * (quote1 x).cps.size + 20) (find := find1' (quote1 x).cps) (code := code1) (x := quote1 x) (fun h X => pat1 X) R₁.cl h3 ?_ (by kernel_rfl) (fun dn must hd => zdH hd) (fun dn a b => find1'_b _ _ _ _) F₂ h4 fun h₃ k₃ t₃ F₃ => ?_
 ·have : (quote1 x).cps.size = (quote1 x).length := rfl
  rw [this]
  exact Nat.le_trans (show _ ≤ 200000 by ktn_no "o4") (by decide)
 exact hQo _ _ <| Back.of F₃ fun G => hq _ _ G
end
end
section
variable {w : World} {B : Heap} {L : Addr} {m : PySem.Str → Option Value} {cl : List (PySem.Str × Addr)} {cm : PySem.Str → Option Value} {own rest news : List (Addr × Obj)} {s₀ s : Shared} {A : Around} {E : Value → Shared → Prop} {Q : Value → Shared → Prop} {n : Nat}
theorem vf_make {mx : Int} {sc : PySem.Str} {t0 t1 t2 t4 : Tok} (R : Room (n + 20) A) (F : Fm w B L cl s₀ m cm rest s)
  (h : ∀ x own' s', VfP x mx sc [] [] own' → Fm w B L cl s₀ m cm (own' ++ rest) s' → Q (.ref x) s') :
  wpAny (M w) A (call (.ref a_VF) [.int 0 t0, .int mx t1, .str "" t2, .str sc t4] []) Q E s := by
 obtain ⟨h₁, g₁, d₁, k₁, o₁⟩ := s
 refine make_vf F.K ?_
 have F₁ := F.push (dictOf [] 0) (tk := k₁)
 have F₂ := F₁.push (vfO h₁.objs.size) (tk := k₁)
 rw [show (h₁.push (dictOf [] 0)).objs.size = h₁.objs.size + 1 from Heap.size_push _ _] at F₂
 exact vf_init (n := n) (rest := rest) (R.tc.less (by ktn_no "om")) F₂ fun own' s' P G => ⟨rfl, h _ _ _ P G⟩
end
noncomputable def CompC (w : World) (A : Around) (e : Expr) (d : Nat) (it acc : Value) (env : Env) (Q : Shared → Prop) (s : Shared) : Prop :=
 codeAny (M w) A (.compLoop e d it acc env) (fun r s' => match r with | .ok _ => Q s' | .error _ => False) s
noncomputable def CompS (w : World) (A : Around) (e : Expr) (d : Nat) (it acc : Value) (env : Env) (Q : Shared → Prop) (s : Shared) : Prop :=
 codeAny (M w) A (.compStart e d it acc env) (fun r s' => match r with | .ok _ => Q s' | .error _ => False) s
noncomputable abbrev ifsOk (env : Env) (ifs : List Expr) : Sem Bool := forIn ifs true fun c r => if r = true then do let ok ← isTrue c env (eval c env); pure (ForInStep.yield ok) else pure (ForInStep.yield r)
section
variable {w : World} {A : Around} {s : Shared} {elt target iter : Expr} {ifs : List Expr} {gens : List Comprehension} {scope : Scope} {pos : Pos} {it acc : Value} {d : Nat} {env : Env} {Q : Shared → Prop}
theorem zaL (hg : gens[d]? = some ⟨target, iter, ifs, 0⟩) (hn : gens[d + 1]? = none) (h : wpAny (M w) A (pyNext it) (fun r s₁ => match r with
      | none => Q s₁
      | some v => wpAny (M w) A (letOwnedTupleGo target it v) (fun _ s₁' => wpAny (M w) A (assign target env v) (fun _ s₂ => wpAny (M w) A (ifsOk env ifs) (fun ok s₃ =>
        if ok = true then wpAny (M w) A (eval elt env) (fun y s₄ => wpAny (M w) A (call (.builtin "list.append") [acc, y]) (fun _ s₅ => CompC w A (.ListComp elt gens scope pos) d it acc env Q s₅) NoE s₄) NoE s₃
        else CompC w A (.ListComp elt gens scope pos) d it acc env Q s₃) NoE s₂) NoE s₁') NoE s₁) NoE s) : CompC w A (.ListComp elt gens scope pos) d it acc env Q s := by
 unfold CompC
 refine codeAny_of_tree ?_
 rw [Around.under_of_weight rfl]
 show wpAny _ A ((compTurn (.ListComp elt gens scope pos) d it acc env).onRaise (fun x => do noteFrame x env; theTreesLotGoes x)) _ _ s
 refine wpAny_onRaise ?_
 unfold compTurn
 dsimp only
 rw [hg, hn]
 refine wpAny_bind (wpAny_standAt (wpAny_bind (wpAny_mono h (fun r s₁ h₁ => ?_) fun _ _ z => z.elim)))
 cases r with
 | none => exact wpAny_pure h₁
 | some v =>
  refine wpAny_bind (wpAny_mono h₁ (fun _ s₁' h₁' => ?_) fun _ _ z => z.elim)
  refine wpAny_bind (wpAny_mono h₁' (fun _ s₂ h₂ => wpAny_bind (wpAny_mono h₂ (fun ok s₃ h₃ => ?_) fun _ _ z => z.elim)) fun _ _ z => z.elim)
  cases ok with
  | false => exact wpAny_pure ⟨rfl, h₃⟩
  | true =>
   refine wpAny_bind (wpAny_bind (wpAny_mono h₃ (fun y s₄ h₄ => ?_) fun _ _ z => z.elim))
   exact wpAny_bind (wpAny_mono h₄ (fun _ s₅ h₅ => wpAny_pure (wpAny_pure ⟨rfl, h₅⟩)) fun _ _ z => z.elim)
theorem zcz {target' iter' : Expr} {ifs' : List Expr} (hg : gens[d]? = some ⟨target, iter, ifs, 0⟩) (hn : gens[d + 1]? = some ⟨target', iter', ifs', 0⟩) (hs : ∀ x, foldedSetIterable iter' env x = pure x)
  (h : wpAny (M w) A (pyNext it) (fun r s₁ => match r with
   | none => Q s₁
   | some v => wpAny (M w) A (letOwnedTupleGo target it v) (fun _ s₁' => wpAny (M w) A (assign target env v) (fun _ s₂ => wpAny (M w) A (ifsOk env ifs) (fun ok s₃ =>
     if ok = true then wpAny (M w) A (eval iter' env) (fun x s₄ => wpAny (M w) A (pyIter x) (fun it' s₅ => CompS w A (.ListComp elt gens scope pos) (d + 1) it' acc env (fun s₆ => CompC w A (.ListComp elt gens scope pos) d it acc env Q s₆) s₅) NoE s₄) NoE s₃
     else CompC w A (.ListComp elt gens scope pos) d it acc env Q s₃) NoE s₂) NoE s₁') NoE s₁) NoE s) : CompC w A (.ListComp elt gens scope pos) d it acc env Q s := by
 unfold CompC
 refine codeAny_of_tree ?_
 rw [Around.under_of_weight rfl]
 show wpAny _ A ((compTurn (.ListComp elt gens scope pos) d it acc env).onRaise (fun x => do noteFrame x env; theTreesLotGoes x)) _ _ s
 refine wpAny_onRaise ?_
 unfold compTurn
 dsimp only
 rw [hg, hn]
 refine wpAny_bind (wpAny_standAt (wpAny_bind (wpAny_mono h (fun r s₁ h₁ => ?_) fun _ _ z => z.elim)))
 cases r with
 | none => exact wpAny_pure h₁
 | some v =>
  refine wpAny_bind (wpAny_mono h₁ (fun _ s₁' h₁' => ?_) fun _ _ z => z.elim)
  refine wpAny_bind (wpAny_mono h₁' (fun _ s₂ h₂ => wpAny_bind (wpAny_mono h₂ (fun ok s₃ h₃ => ?_) fun _ _ z => z.elim)) fun _ _ z => z.elim)
  cases ok with
  | false => exact wpAny_pure ⟨rfl, h₃⟩
  | true =>
   refine wpAny_bind (wpAny_mono h₃ (fun x s₄ h₄ => ?_) fun _ _ z => z.elim)
   refine wpAny_bind (wpAny_standAt ?_)
   dsimp only
   show wpAny _ A (foldedSetIterable iter' env x >>= _) _ _ _
   refine wpAny_bind (wpAny_of_eq (hs x) ?_)
   show wpAny _ A (holding [x] (pyIter x) >>= _) _ _ _
   refine wpAny_bind (wpAny_holding (wpAny_mono h₄ (fun it' s₅ h₅ => ?_) fun _ _ z => z.elim))
   refine wpAny_bind (wpAny_runOwn (codeAny_mono h₅ fun r s₆ h₆ => ?_))
   cases r with
   | ok f => exact wpAny_pure ⟨rfl, h₆⟩
   | error x => exact h₆.elim
theorem za3 (hg : gens[d]? = some ⟨target, iter, ifs, 0⟩) (h0 : CompC w A (.ListComp elt gens scope pos) d it acc env Q s)
  (h : wpAny (M w) A (pyIter it) (fun it' s' => CompC w A (.ListComp elt gens scope pos) d it' acc env Q s') NoE s) : CompS w A (.ListComp elt gens scope pos) d it acc env Q s := by
 unfold CompS
 refine codeAny_of_tree ?_
 rw [Around.under_of_weight rfl]
 show wpAny _ A ((compStart (.ListComp elt gens scope pos) d it acc env).onRaise (fun x => do noteFrame x env; standAt theWindowsPlace)) _ _ s
 refine wpAny_onRaise ?_
 unfold compStart
 show wpAny _ _ (if (gens[d]?.elim false fun x => x.is_async != 0) = true then _ else _) _ _ s
 rw [hg]
 (ktn_no "iN"; exact (show ¬ ((some (Comprehension.mk target iter ifs 0)).elim false fun x => x.is_async != 0) = true from Bool.false_ne_true))
 refine wpAny_bind (wpAny_askSetting (wpAny_ite ?_))
 split
 ·exact wpAny_bind (wpAny_pure (wpAny_pure (And.intro rfl h0)))
 ·refine wpAny_bind (wpAny_rule ?_)
  dsimp only [clausesOf]
  rw [hg]
  exact wpAny_bind (wpAny_standAt (wpAny_bind (wpAny_mono h (fun it' s' h' => wpAny_pure (And.intro rfl h')) fun _ _ z => z.elim)))
end
noncomputable def LcB (w : World) (B : Heap) (L : Addr) (m : PySem.Str → Option Value) (cl : List (PySem.Str × Addr)) (cm : PySem.Str → Option Value) (news : List (Addr × Obj)) (s₀ s : Shared) (C : Addr) (Q : Shared → Prop) (s' : Shared) : Prop :=
 ∃ m' cl' cm' news', Fm w (under s news) C cl' s m' cm' news' s' ∧ ∀ s'', Fm w B L cl s₀ m cm news' s'' → Q s''
section
variable {w : World} {B : Heap} {L : Addr} {m : PySem.Str → Option Value} {cl : List (PySem.Str × Addr)} {cm : PySem.Str → Option Value} {news : List (Addr × Obj)} {s₀ s : Shared} {A : Around} {E : Value → Shared → Prop}
theorem Fm.leaveC (F : Fm w B L cl s₀ m cm news s) {C : Addr} {m' cm' : PySem.Str → Option Value} {cl' : List (PySem.Str × Addr)} {news' : List (Addr × Obj)} {s' : Shared} (G : Fm w (under s news) C cl' s m' cm' news' s') :
  ∃ oC, NsO oC m' ∧ Fm w B L cl s₀ m cm ((C, oC) :: news') s' := by
 have H := F.leave G
 (refine x1_2 (ns_of G.ns) ?_; intro oC hC hN)
 refine ⟨oC, hN, ?_⟩
 (refine x1_2 (ns_of F.ns) ?_; intro oL hL _)
 have kL := F.under_L hL
 have big := G.above.2
 exact { H with
  nw := fun p hp => by
   rcases List.mem_cons.mp hp with rfl | hp
   ·refine ⟨hC, fun e => ?_, ?_, big⟩
    ·have := G.above.1
     have e : C = L := e
     rw [e, kL] at this; cases this
    ·cases q : B.get? C with
     | none => rfl
     | some o => have := G.above.1; rw [F.under_keep _ _ q] at this; cases this
   ·exact H.nw p hp
  nd := List.nodup_cons.mpr ⟨fun q => by
   (refine x1_2 (List.mem_map.mp q) ?_; intro p hp e)
   exact (G.nw p hp).2.1 e, H.nd⟩
  cd := fun n c e => by
   (refine x0_3 (H.cd n c e) ?_; intro a b c')
   refine ⟨a, fun q => ?_, c'⟩
   rcases List.mem_cons.mp q with q | q
   ·(refine x1_2 (F.ce n c e) ?_; intro oc hoc _)
    have h1 := F.under_cell e hoc
    have := G.above.1
    have q : c = C := q
    rw [← q, h1] at this; cases this
   ·exact b q }
theorem LcB.out (F : Fm w B L cl s₀ m cm news s) {C : Addr} {Q : Shared → Prop} {s' : Shared} (h : LcB w B L m cl cm news s₀ s C Q s') :
  ∃ m', s'.heap.Ns C m' ∧ ∀ h', Heap.SameBut C s'.heap h' → Q { s' with heap := h' } := by
 (refine x4_2 (h) ?_; try clear h; intro m' cl' cm' news' G k)
 (refine x1_2 (F.leaveC G) ?_; intro oC hN H)
 exact ⟨m', G.ns, fun h' hs => k _ (H.lose (tk := s'.toks) fun b ob hb e => (hs.2 b hb).trans e)⟩
theorem zeA {scope : Scope} {env : Env} {cl' : List (PySem.Str × Addr)} {P : Env → Shared → Prop} (F : Fm w B L cl s₀ m cm news s)
  (hcell : ∀ x ∈ scope.names, x.2 ≠ .cell) (hkind : scope.kind = .function) (hcl : ∀ n c, cl'.lookup n = some c → cl.lookup n = some c)
  (h : ∀ C s₁, s₁.heap.objs.size > s.heap.objs.size → Fm w (under s news) C cl' s (fun _ => none) cm news s₁ → P (newEnv scope C env.globals cl' env.qual none .none (some env) builtinsNs) s₁) :
  wpAny (M w) A (newFunctionEnv scope env.globals cl' [] env.qual none .none (some env)) P E s := by
 refine wpAny_newFunctionEnv (builtins := builtinsNs) hcell (by intro y hy; simp at hy) (fun h₁ hns hsb => ?_) hkind
 have hk : ∀ b o, s.heap.get? b = some o → h₁.get? b = some o := fun b o e => hsb.extBut b o (fun q => absurd (Heap.lt_size e) (by rw [q]; exact Nat.lt_irrefl _)) (Heap.get?_push_of_some _ e)
 exact h s.heap.objs.size _ hns.lt (F.enter rfl hns hk (Nat.le_of_lt hns.lt) (fun n c e => (F.ce n c (hcl n c e)).keeps hk) (fun n c e => by
  (refine x0_3 (F.cd n c (hcl n c e)) ?_; intro a b c')
  (refine x1_2 (F.ce n c (hcl n c e)) ?_; intro oc hoc _)
  exact ⟨Nat.ne_of_lt (Heap.lt_size hoc), b, c'⟩) fun n n' c e e' => F.cp n n' c (hcl _ _ e) (hcl _ _ e'))
variable {elt target iter : Expr} {ifs : List Expr} {rest : List Comprehension} {scope : Scope} {pos : Pos} {env : Env} {cl' : List (PySem.Str × Addr)} {Q : Value → Shared → Prop}
theorem zdc (hclos : closureFor scope env = pure cl') (hcell : (scope.names.all fun x => decide (x.2 ≠ .cell)) = true) (hkind : scope.kind = .function)
  (hnames : (scope.names.all fun x => decide (x.2 = .local → scope.names.lookup x.1 = some .local)) = true) (hs : ∀ x, foldedSetIterable iter env x = pure x)
  (hcl : ∀ n c, cl'.lookup n = some c → cl.lookup n = some c)
  (h : wpAny (M w) A (eval iter env) (fun x s₁ => wpAny (M w) A (pyIter x) (fun it s₂ => ∃ news, Fm w B L cl s₀ m cm news s₂ ∧
   ∀ D C s₃ s₄, s₃.heap.objs.size > D → Fm w B L cl s₀ m cm ((D, lsO [] 0) :: news) s₃ → Fm w (under s₃ ((D, lsO [] 0) :: news)) C cl' s₃ (fun _ => none) cm ((D, lsO [] 0) :: news) s₄ →
    CompS w A (.ListComp elt (⟨target, iter, ifs, 0⟩ :: rest) scope pos) 0 it (.ref D) (compEnvC scope cl' C env) (LcB w B L m cl cm ((D, lsO [] 0) :: news) s₀ s₃ C (Q (.ref D))) s₄) NoE s₁) NoE s) :
  wpAny (M w) A (eval (.ListComp elt (⟨target, iter, ifs, 0⟩ :: rest) scope pos) env) Q NoE s := by
 rw [eval_ListComp]
 refine wpAny_comprehension_free (use := none) rfl hs hclos hkind (fun x hx => of_decide_eq_true (List.all_eq_true.mp hnames x hx)) (wpAny_mono h (fun xv s₁ h₁ => wpAny_mono h₁ (fun it s₂ h₂ => ?_) fun _ _ e => e) fun _ _ e => e)
 (refine x1_2 (h₂) ?_; try clear h₂; intro news F k)
 have F' := F.push (lsO [] 0) (tk := s₂.toks)
 refine wpAny_newObj_type ?_
 refine zeA (env := env) F' (fun x hx => of_decide_eq_true (List.all_eq_true.mp hcell x hx)) hkind hcl fun C s₄ hz G => ?_
 refine codeAny_mono (k _ C _ s₄ (by show _ > _; rw [Heap.size_push]; exact Nat.lt_succ_self _) F' G) fun r s' hr => ?_
 cases r with
 | error x => exact hr.elim
 | ok f => exact hr.out F'
end
section
variable {w : World} {B : Heap} {L : Addr} {m : PySem.Str → Option Value} {cl : List (PySem.Str × Addr)} {cm : PySem.Str → Option Value} {news : List (Addr × Obj)} {s₀ s : Shared} {A : Around} {E : Value → Shared → Prop}
variable {elt target iter : Expr} {ifs : List Expr} {rest : List Comprehension} {scope : Scope} {pos py spos : Pos} {env : Env} {cl' : List (PySem.Str × Addr)} {y : PySem.Str} {Q : Flow → Shared → Prop}
theorem zdw (hsw : swapsWith (.ListComp elt (⟨target, iter, ifs, 0⟩ :: rest) scope pos) (some (.Name y py)) spos.line env = pure true)
  (hclos : closureFor scope env = pure cl') (hcell : (scope.names.all fun x => decide (x.2 ≠ .cell)) = true) (hkind : scope.kind = .function)
  (hnames : (scope.names.all fun x => decide (x.2 = .local → scope.names.lookup x.1 = some .local)) = true) (hs : ∀ x, foldedSetIterable iter env x = pure x)
  (hcl : ∀ n c, cl'.lookup n = some c → cl.lookup n = some c) (hk : env.scope.kind = .function) (hy : env.kindOf y = some .local) (hL : env.locals = L)
  (h : wpAny (M w) A (eval iter env) (fun x s₁ => wpAny (M w) A (pyIter x) (fun it s₂ => ∃ news, Fm w B L cl s₀ m cm news s₂ ∧
   ∀ D C s₃ s₄, s₃.heap.objs.size > D → Fm w B L cl s₀ m cm ((D, lsO [] 0) :: news) s₃ → Fm w (under s₃ ((D, lsO [] 0) :: news)) C cl' s₃ (fun _ => none) cm ((D, lsO [] 0) :: news) s₄ →
    CompS w A (.ListComp elt (⟨target, iter, ifs, 0⟩ :: rest) scope pos) 0 it (.ref D) (compEnvC scope cl' C env) (fun s₅ => ∃ m' cl' cm' news', Fm w (under s₃ ((D, lsO [] 0) :: news)) C cl' s₃ m' cm' news' s₅ ∧ ∀ s'', Fm w B L cl s₀ (upd m y (.ref D)) cm news' s'' → Q .next s'') s₄) NoE s₁) NoE s) :
  wpAny (M w) A (exec (.Assign [.Name y py] (.ListComp elt (⟨target, iter, ifs, 0⟩ :: rest) scope pos) spos) env) Q NoE s := by
 rw [exec_Assign_Name_used _ _ _ _ hsw]
 refine wpAny_bind (wpAny_standAt (wpAny_bind ?_))
 show wpAny _ A (do let _ ← comprehension (.ListComp elt (⟨target, iter, ifs, 0⟩ :: rest) scope pos) scope env _ (newList []) false (eval iter env) (some (assign (.Name y py) env))) _ _ s
 refine wpAny_bind (wpAny_mono (wpAny_comprehension_free (use := some (assign (.Name y py) env)) (Q := fun _ s' => Q .next s') rfl hs hclos hkind (fun x hx => of_decide_eq_true (List.all_eq_true.mp hnames x hx))
  (wpAny_mono h (fun xv s₁ h₁ => wpAny_mono h₁ (fun it s₂ h₂ => ?_) fun _ _ e => e) fun _ _ e => e)) (fun _ s' hq => wpAny_pure (wpAny_pure hq)) fun _ _ e => e)
 (refine x1_2 (h₂) ?_; try clear h₂; intro news F k)
 have F' := F.push (lsO [] 0) (tk := s₂.toks)
 refine wpAny_newObj_type ?_
 refine zeA (env := env) F' (fun x hx => of_decide_eq_true (List.all_eq_true.mp hcell x hx)) hkind hcl fun C s₄ hz G => ?_
 refine codeAny_mono (k _ C _ s₄ (by show _ > _; rw [Heap.size_push]; exact Nat.lt_succ_self _) F' G) fun r s' hr => ?_
 cases r with
 | error x => exact hr.elim
 | ok f =>
  (refine x4_2 (hr) ?_; try clear hr; intro m' cl₁ cm' news' G' kk)
  (refine x1_2 (F'.leaveC G') ?_; intro oC hN H)
  show wpAny _ A (assign (.Name y py) env (.ref s₂.heap.objs.size)) _ _ _
  obtain ⟨h', g', d', tk', os'⟩ := s'
  refine wpAny_assign_Name (st_L H hk hy hL fun h₂ H₂ => ?_)
  refine ⟨m', hN.at (H₂.at 0 rfl), fun h'' hs'' => kk _ (H₂.lose (tk := tk' + 1) fun b ob hb e => (hs''.2 b hb).trans e)⟩
end
noncomputable def OwnC (B : Heap) (cl : List (PySem.Str × Addr)) : Prop := ∀ n c, cl.lookup n = some c → B.get? c = none ∧ szTop ≤ c
section
variable {w : World} {B : Heap} {L : Addr} {m : PySem.Str → Option Value} {cl : List (PySem.Str × Addr)} {cm : PySem.Str → Option Value} {news : List (Addr × Obj)} {s₀ s : Shared} {A : Around} {E : Value → Shared → Prop} {Q : Value → Shared → Prop}
theorem zcM {n : Nat} {f : Addr} {oc : Value} {od : Option Addr} {osl : Array (Option Value)} {fd : FuncData} {body : List Stmt} {vals : List Value} {binds : List (PySem.Str × Value)}
  (R : Room (n + 1) A) (F : Fm w B L cl s₀ m cm news s)
  (ho : (KF w.params).lookup f = some ⟨oc, od, .func fd, osl⟩) (hcd : codeIn (KF w.params) fd.code fd.qualname = true) (hbody : fd.body = .stmts body) (hbind : bindArgs fd ⟨vals, []⟩ = pure binds) (hclo : fd.closure = [])
  (hkind : ∀ z, binds.all (fun x => decide (fd.scope.names.lookup x.1 = some .local) || (decide (fd.scope.names.lookup x.1 = some .cell) && ((cellsFrom z fd.scope.names []).lookup x.1).isSome)) = true)
  (h : ∀ Qo : Flow → Shared → Prop, (∀ fl s', Back w B L m cl cm news s₀ s Q (retV fl) s' → Qo fl s') → ∀ L' s₁, L' = s.heap.objs.size → Fm w (under s news) L' (callEnvC fd L' f).cells s (bindL (callEnvC fd L' f).kindOf binds fun _ => none) (bindC (callEnvC fd L' f).kindOf binds fun _ => none) news s₁ → OwnC (under s news) (callEnvC fd L' f).cells → Room n (A.deeper (callEnvC fd L' f)) →
   wpAny (M w) (A.deeper (callEnvC fd L' f)) (execs body (callEnvC fd L' f)) Qo (fun _ _ => False) s₁)
  (hco : fd.scope.isCoroutine = false) (hgen : fd.scope.isGenerator = false) (hk : fd.scope.kind = .function) : wpAny (M w) A (call (.ref f) vals []) Q E s := by
 have X := F.K
 refine wpAny_call (codeAny_call_cells (fd := fd) (body := body) (binds := binds) R.lt (X _ _ ho) rfl (F.wf.nl.keeps F.keep) (codeRec_of X hcd) hbody hbind hclo (fun x hx => ?_) (fun s₁ I => ?_) hco hgen hk)
 ·have := List.all_eq_true.mp (hkind (s.heap.objs.size + 1)) x hx
  rw [Bool.or_eq_true, Bool.and_eq_true, decide_eq_true_eq, decide_eq_true_eq] at this
  exact this
 have IC := I.toInCall
 (refine x2_1 (IC.same) ?_; intro h₁ tk eqX2; subst eqX2)
 have hz : s.heap.objs.size < h₁.objs.size := IC.ns.lt
 have hnone : ∀ c, s.heap.objs.size < c → (under s news).get? c = none := fun c hc => by
  cases q : (under s news).get? c with
  | none => rfl
  | some o => exact absurd (Heap.lt_size q) (by show ¬ c < (hideAll s.heap _).objs.size; rw [hideAll_size]; ktn_no "o4")
 have hab : ∀ n c, (callEnvC fd s.heap.objs.size f).cells.lookup n = some c → s.heap.objs.size < c := fun n c e => I.above n c (mem_of_lookup e)
 have hT : szTop ≤ s.heap.objs.size := Nat.le_trans F.szL (Nat.le_of_lt F.ns.lt)
 refine wpAny_mono (h _ (fun _ _ x => x) s.heap.objs.size _ rfl (F.enter (tk := tk) rfl IC.ns IC.keep (Nat.le_of_lt hz) I.cell (fun n c e => ?_) fun n n' c e e' => name_of_addr I.apart (mem_of_lookup e) (mem_of_lookup e')) (fun n c e => ⟨hnone c (hab n c e), Nat.le_trans hT (Nat.le_of_lt (hab n c e))⟩) R.deeper) (fun fl s' hb => ?_) (fun _ _ x => x.elim)
 ·have hc := hab n c e
  refine ⟨Nat.ne_of_gt hc, fun q => ?_, fun t => absurd (tab_lt t) (Nat.not_lt.mpr (Nat.le_trans hT (Nat.le_of_lt hc)))⟩
  (refine x1_2 (List.mem_map.mp q) ?_; intro p hp e')
  have := Heap.lt_size (F.nw p hp).1
  rw [e'] at this
  exact Nat.lt_asymm this hc
 ·cases fl <;> exact hb.go F
end
local macro_rules | `(tactic| ktn_no "x2") => `(tactic| first
 | ktn_no "y1"
 | (with_reducible refine st_C (by assumption) ?a1 ?a2 ?a3 ?a4 ?a5 ?a6 (fun _ _ => ?_); (case a1 => kernel_rfl); (case a2 => kernel_rfl!); (case a3 => kernel_rfl); (case a4 => kernel_rfl); (case a5 => exact (by assumption : OwnC _ _) _ _ (by kernel_rfl) |>.1); (case a6 => exact (by assumption : OwnC _ _) _ _ (by kernel_rfl) |>.2)))
local macro_rules | `(tactic| ktn_no "z") => `(tactic| repeat ktn_no "x2")
noncomputable def captStep (cells : List (PySem.Str × Addr)) (cs : List (PySem.Str × Addr)) (x : PySem.Str × NameKind) : List (PySem.Str × Addr) := if x.2 == .free then (x.1, (cells.lookup x.1).getD 0) :: cs else cs
noncomputable def capt (scope : Scope) (cells : List (PySem.Str × Addr)) : List (PySem.Str × Addr) := scope.names.foldl (captStep cells) []
noncomputable def captOk (scope : Scope) (cells : List (PySem.Str × Addr)) : Bool := scope.names.all fun x => !(x.2 == .free) || (cells.lookup x.1).isSome
theorem zhM (env : Env) (f : PySem.Str × NameKind → List (PySem.Str × Addr) → Sem (ForInStep (List (PySem.Str × Addr))))
  (hf : ∀ n k cs, f (n, k) cs = if k == .free then (do let c ← cellOf env n; pure (.yield ((n, c) :: cs))) else pure (.yield cs)) :
  ∀ (names : List (PySem.Str × NameKind)) (acc : List (PySem.Str × Addr)), (names.all fun x => !(x.2 == .free) || (env.cells.lookup x.1).isSome) = true → forIn names acc f = pure (names.foldl (captStep env.cells) acc) := by
 intro names
 induction names with
 | nil =>
  intro acc _
  exact rfl
 | cons ab names ih =>
  obtain ⟨n, k⟩ := ab
  intro acc h
  rw [List.all_cons, Bool.and_eq_true] at h
  rw [List.forIn_cons, hf, List.foldl_cons]
  by_cases hk : (k == .free) = true
  ·rw [if_pos hk]
   have h1 := h.1
   simp only [hk, Bool.not_true, Bool.false_or] at h1
   obtain ⟨c, hc⟩ := Option.isSome_iff_exists.mp h1
   have e : cellOf env n = pure c := by unfold cellOf; rw [hc]
   rw [e]
   show forIn names ((n, c) :: acc) f = _
   rw [ih _ h.2]
   unfold captStep
   rw [if_pos hk, hc]; rfl
  ·rw [if_neg hk]
   show forIn names acc f = _
   rw [ih _ h.2]
   unfold captStep
   rw [if_neg hk]
theorem zbY {scope : Scope} {env : Env} (h : captOk scope env.cells = true) : closureFor scope env = pure (capt scope env.cells) := by
 unfold closureFor capt
 show (forIn scope.names [] _ >>= _) = _
 rw [zhM env _ (fun n k cs => ?_) scope.names [] h]
 ·rfl
 ·by_cases hk : (k == .free) = true
  ·simp only [hk]
  ·simp only [hk]
theorem zhl (cells : List (PySem.Str × Addr)) : ∀ (names : List (PySem.Str × NameKind)) (acc : List (PySem.Str × Addr)), (names.all fun x => !(x.2 == .free) || (cells.lookup x.1).isSome) = true → (∀ n c, acc.lookup n = some c → cells.lookup n = some c) →
  ∀ n c, (names.foldl (captStep cells) acc).lookup n = some c → cells.lookup n = some c := by
 intro names
 induction names with
 | nil =>
  intro acc _ h
  exact h
 | cons ab names ih =>
  obtain ⟨x, k⟩ := ab
  intro acc hn h
  rw [List.all_cons, Bool.and_eq_true] at hn
  rw [List.foldl_cons]
  refine ih _ hn.2 fun n c e => ?_
  unfold captStep at e
  split at e
  ·rename_i hk
   have h1 := hn.1
   simp only [hk, Bool.not_true, Bool.false_or] at h1
   obtain ⟨c', hc⟩ := Option.isSome_iff_exists.mp h1
   rw [List.lookup_cons] at e
   dsimp only at e
   rw [hc] at e
   cases hb : n == x with
   | true => rw [hb] at e; dsimp only at e; cases e; rw [beq_iff_eq.mp hb]; exact hc
   | false => rw [hb] at e; exact h n c e
  ·exact h n c e
theorem zc5 {scope : Scope} {cells : List (PySem.Str × Addr)} (h : captOk scope cells = true) : ∀ n c, (capt scope cells).lookup n = some c → cells.lookup n = some c :=
 zhl cells scope.names [] h fun n c e => by simp at e
section
variable {w : World} {B : Heap} {L : Addr} {m : PySem.Str → Option Value} {cl : List (PySem.Str × Addr)} {cm : PySem.Str → Option Value} {news : List (Addr × Obj)} {s₀ s : Shared} {A : Around}
variable {elt target iter : Expr} {ifs : List Expr} {rest : List Comprehension} {scope : Scope} {pos py spos : Pos} {env : Env}
theorem zaM {Q : Value → Shared → Prop} (hk : captOk scope env.cells = true) (hL : env.cells = cl) (hcell : (scope.names.all fun x => decide (x.2 ≠ .cell)) = true) (hkind : scope.kind = .function)
  (hnames : (scope.names.all fun x => decide (x.2 = .local → scope.names.lookup x.1 = some .local)) = true) (hs : ∀ x, foldedSetIterable iter env x = pure x)
  (h : wpAny (M w) A (eval iter env) (fun x s₁ => wpAny (M w) A (pyIter x) (fun it s₂ => ∃ news, Fm w B L cl s₀ m cm news s₂ ∧
   ∀ D C s₃ s₄, s₃.heap.objs.size > D → Fm w B L cl s₀ m cm ((D, lsO [] 0) :: news) s₃ → Fm w (under s₃ ((D, lsO [] 0) :: news)) C (capt scope env.cells) s₃ (fun _ => none) cm ((D, lsO [] 0) :: news) s₄ →
    CompS w A (.ListComp elt (⟨target, iter, ifs, 0⟩ :: rest) scope pos) 0 it (.ref D) (compEnvC scope (capt scope env.cells) C env) (LcB w B L m cl cm ((D, lsO [] 0) :: news) s₀ s₃ C (Q (.ref D))) s₄) NoE s₁) NoE s) :
  wpAny (M w) A (eval (.ListComp elt (⟨target, iter, ifs, 0⟩ :: rest) scope pos) env) Q NoE s :=
 zdc (zbY hk) hcell hkind hnames hs (by subst hL; exact zc5 hk) h
theorem zaw {y : PySem.Str} {Q : Flow → Shared → Prop} (hsw : swapsWith (.ListComp elt (⟨target, iter, ifs, 0⟩ :: rest) scope pos) (some (.Name y py)) spos.line env = pure true)
  (hkc : captOk scope env.cells = true) (hLc : env.cells = cl) (hcell : (scope.names.all fun x => decide (x.2 ≠ .cell)) = true) (hkind : scope.kind = .function)
  (hnames : (scope.names.all fun x => decide (x.2 = .local → scope.names.lookup x.1 = some .local)) = true) (hs : ∀ x, foldedSetIterable iter env x = pure x)
  (hk : env.scope.kind = .function) (hy : env.kindOf y = some .local) (hL : env.locals = L)
  (h : wpAny (M w) A (eval iter env) (fun x s₁ => wpAny (M w) A (pyIter x) (fun it s₂ => ∃ news, Fm w B L cl s₀ m cm news s₂ ∧
   ∀ D C s₃ s₄, s₃.heap.objs.size > D → Fm w B L cl s₀ m cm ((D, lsO [] 0) :: news) s₃ → Fm w (under s₃ ((D, lsO [] 0) :: news)) C (capt scope env.cells) s₃ (fun _ => none) cm ((D, lsO [] 0) :: news) s₄ →
    CompS w A (.ListComp elt (⟨target, iter, ifs, 0⟩ :: rest) scope pos) 0 it (.ref D) (compEnvC scope (capt scope env.cells) C env) (fun s₅ => ∃ m' cl' cm' news', Fm w (under s₃ ((D, lsO [] 0) :: news)) C cl' s₃ m' cm' news' s₅ ∧ ∀ s'', Fm w B L cl s₀ (upd m y (.ref D)) cm news' s'' → Q .next s'') s₄) NoE s₁) NoE s) :
  wpAny (M w) A (exec (.Assign [.Name y py] (.ListComp elt (⟨target, iter, ifs, 0⟩ :: rest) scope pos) spos) env) Q NoE s :=
 zdw hsw (zbY hkc) hcell hkind hnames hs (by subst hLc; exact zc5 hkc) hk hy hL h
end
noncomputable def SelfI (w : World) (I : Addr) (Ob : Nat → Obj → Prop) : Prop := ∀ (A : Around) (o : Obj) (s : Shared) (Q : Value → Shared → Prop), Ob 0 o → s.heap.get? I = some o → Q (.ref I) s → wpAny (M w) A (pyIter (.ref I)) Q NoE s
theorem za8 {w : World} (I : Addr) (a c : Int) (n : Nat) : SelfI w I (fun i o => o = ⟨.type "range_iterator", none, .fields #[rawInt (a + (i : Nat) * c), rawInt ((n : Int) - (i : Nat)), rawInt c], #[]⟩) :=
 fun _ o _ _ ho hI q => by subst ho; exact wpAny_pyIter_rangeiter hI q
theorem zaA {w : World} (I x : Addr) : SelfI w I (fun i o => o = itO x i) :=
 fun _ o _ _ ho hI q => by subst ho; exact wpAny_pyIter_listiter (it := I) (l := x) (i := 0) ⟨_, hI, rfl, rfl⟩ q
section
variable {w : World} {B : Heap} {C I : Addr} {cl : List (PySem.Str × Addr)} {s₀ : Shared} {A : Around} {n : Nat} {P : Nat → Value → Prop} {Ob : Nat → Obj → Prop} {Sd : Heap → Prop}
 {elt target iter : Expr} {ifs : List Expr} {gens : List Comprehension} {scope : Scope} {pos : Pos} {acc : Value} {d : Nat} {env : Env} {Q : Shared → Prop}
theorem zhO (S : Steps w I n P Ob Sd) (hg : gens[d]? = some ⟨target, iter, ifs, 0⟩) (hn : gens[d + 1]? = none) (hh : A.handled = none)
  (Inv : Nat → (PySem.Str → Option Value) → (PySem.Str → Option Value) → List (Addr × Obj) → Prop)
  (hSd : ∀ i m cm news s o, Inv i m cm news → Fm w B C cl s₀ m cm ((I, o) :: news) s → Sd s.heap)
  (body : ∀ i v m cm news o s (K : Shared → Prop), i < n → P i v → Inv i m cm news → Fm w B C cl s₀ m cm ((I, o) :: news) s →
   (∀ m' cm' news' s', Inv (i + 1) m' cm' news' → Fm w B C cl s₀ m' cm' ((I, o) :: news') s' → K s') →
   wpAny (M w) A (letOwnedTupleGo target (.ref I) v) (fun _ s₁' => wpAny (M w) A (assign target env v) (fun _ s₂ => wpAny (M w) A (ifsOk env ifs) (fun ok s₃ =>
     if ok = true then wpAny (M w) A (eval elt env) (fun y s₄ => wpAny (M w) A (call (.builtin "list.append") [acc, y]) (fun _ s₅ => K s₅) NoE s₄) NoE s₃
     else K s₃) NoE s₂) NoE s₁') NoE s) :
  ∀ (k i : Nat) (m cm : PySem.Str → Option Value) (news : List (Addr × Obj)) (o : Obj) (s : Shared), i + k = n → Ob i o → Inv i m cm news → Fm w B C cl s₀ m cm ((I, o) :: news) s →
   (∀ m' cm' news' s', Inv n m' cm' news' → Fm w B C cl s₀ m' cm' news' s' → Q s') → CompC w A (.ListComp elt gens scope pos) d (.ref I) acc env Q s := by
 intro k
 induction k with
 | zero =>
  intro i m cm news o s hi ho hv F hq
  refine zaL hg hn ?_
  have hs := hSd _ _ _ _ _ _ hv F
  obtain ⟨h, g, dd, tk, os⟩ := s
  refine F.endI S hh (by ktn_no "om") ho hs fun h' tk' F' => ?_
  exact hq _ _ _ _ (by rw [← hi]; exact hv) F'
 | succ k ih =>
  intro i m cm news o s hi ho hv F hq
  refine zaL hg hn ?_
  have hs := hSd _ _ _ _ _ _ hv F
  obtain ⟨h, g, dd, tk, os⟩ := s
  refine F.nextI S (by ktn_no "om") ho hs fun v h' tk' o' hP ho' F' => ?_
  refine body i v m cm news o' _ _ (by ktn_no "om") hP hv F' fun m' cm' news' s' hv' F'' => ?_
  exact ih (i + 1) m' cm' news' o' s' (by ktn_no "om") ho' hv' F'' hq
theorem zgL {target' iter' : Expr} {ifs' : List Expr} (S : Steps w I n P Ob Sd) (hg : gens[d]? = some ⟨target, iter, ifs, 0⟩) (hn : gens[d + 1]? = some ⟨target', iter', ifs', 0⟩) (hf : ∀ x, foldedSetIterable iter' env x = pure x) (hh : A.handled = none)
  (Inv : Nat → (PySem.Str → Option Value) → (PySem.Str → Option Value) → List (Addr × Obj) → Prop)
  (hSd : ∀ i m cm news s o, Inv i m cm news → Fm w B C cl s₀ m cm ((I, o) :: news) s → Sd s.heap)
  (body : ∀ i v m cm news o s (K : Shared → Prop), i < n → P i v → Inv i m cm news → Fm w B C cl s₀ m cm ((I, o) :: news) s →
   (∀ m' cm' news' s', Inv (i + 1) m' cm' news' → Fm w B C cl s₀ m' cm' ((I, o) :: news') s' → K s') →
   wpAny (M w) A (letOwnedTupleGo target (.ref I) v) (fun _ s₁' => wpAny (M w) A (assign target env v) (fun _ s₂ => wpAny (M w) A (ifsOk env ifs) (fun ok s₃ =>
     if ok = true then wpAny (M w) A (eval iter' env) (fun x s₄ => wpAny (M w) A (pyIter x) (fun it' s₅ => CompS w A (.ListComp elt gens scope pos) (d + 1) it' acc env K s₅) NoE s₄) NoE s₃
     else K s₃) NoE s₂) NoE s₁') NoE s) :
  ∀ (k i : Nat) (m cm : PySem.Str → Option Value) (news : List (Addr × Obj)) (o : Obj) (s : Shared), i + k = n → Ob i o → Inv i m cm news → Fm w B C cl s₀ m cm ((I, o) :: news) s →
   (∀ m' cm' news' s', Inv n m' cm' news' → Fm w B C cl s₀ m' cm' news' s' → Q s') → CompC w A (.ListComp elt gens scope pos) d (.ref I) acc env Q s := by
 intro k
 induction k with
 | zero =>
  intro i m cm news o s hi ho hv F hq
  refine zcz hg hn hf ?_
  have hs := hSd _ _ _ _ _ _ hv F
  obtain ⟨h, g, dd, tk, os⟩ := s
  refine F.endI S hh (by ktn_no "om") ho hs fun h' tk' F' => ?_
  exact hq _ _ _ _ (by rw [← hi]; exact hv) F'
 | succ k ih =>
  intro i m cm news o s hi ho hv F hq
  refine zcz hg hn hf ?_
  have hs := hSd _ _ _ _ _ _ hv F
  obtain ⟨h, g, dd, tk, os⟩ := s
  refine F.nextI S (by ktn_no "om") ho hs fun v h' tk' o' hP ho' F' => ?_
  refine body i v m cm news o' _ _ (by ktn_no "om") hP hv F' fun m' cm' news' s' hv' F'' => ?_
  exact ih (i + 1) m' cm' news' o' s' (by ktn_no "om") ho' hv' F'' hq
theorem zcT (S : Steps w I n P Ob Sd) (self : SelfI w I Ob) (hg : gens[d]? = some ⟨target, iter, ifs, 0⟩) (hn : gens[d + 1]? = none) (hh : A.handled = none)
  (Inv : Nat → (PySem.Str → Option Value) → (PySem.Str → Option Value) → List (Addr × Obj) → Prop)
  (hSd : ∀ i m cm news s o, Inv i m cm news → Fm w B C cl s₀ m cm ((I, o) :: news) s → Sd s.heap)
  {m cm : PySem.Str → Option Value} {news : List (Addr × Obj)} {o : Obj} {s : Shared} (ho : Ob 0 o) (hv : Inv 0 m cm news) (F : Fm w B C cl s₀ m cm ((I, o) :: news) s)
  (body : ∀ i v m cm news o s (K : Shared → Prop), i < n → P i v → Inv i m cm news → Fm w B C cl s₀ m cm ((I, o) :: news) s →
   (∀ m' cm' news' s', Inv (i + 1) m' cm' news' → Fm w B C cl s₀ m' cm' ((I, o) :: news') s' → K s') →
   wpAny (M w) A (letOwnedTupleGo target (.ref I) v) (fun _ s₁' => wpAny (M w) A (assign target env v) (fun _ s₂ => wpAny (M w) A (ifsOk env ifs) (fun ok s₃ =>
     if ok = true then wpAny (M w) A (eval elt env) (fun y s₄ => wpAny (M w) A (call (.builtin "list.append") [acc, y]) (fun _ s₅ => K s₅) NoE s₄) NoE s₃
     else K s₃) NoE s₂) NoE s₁') NoE s)
  (hq : ∀ m' cm' news' s', Inv n m' cm' news' → Fm w B C cl s₀ m' cm' news' s' → Q s') : CompS w A (.ListComp elt gens scope pos) d (.ref I) acc env Q s := by
 have run := zhO (acc := acc) (scope := scope) (pos := pos) S hg hn hh Inv hSd body n 0 m cm news o s (by ktn_no "om") ho hv F hq
 exact za3 hg run (self A o s _ ho (F.at 0 rfl) run)
theorem zgs {target' iter' : Expr} {ifs' : List Expr} (S : Steps w I n P Ob Sd) (self : SelfI w I Ob) (hg : gens[d]? = some ⟨target, iter, ifs, 0⟩) (hn : gens[d + 1]? = some ⟨target', iter', ifs', 0⟩) (hf : ∀ x, foldedSetIterable iter' env x = pure x) (hh : A.handled = none)
  (Inv : Nat → (PySem.Str → Option Value) → (PySem.Str → Option Value) → List (Addr × Obj) → Prop)
  (hSd : ∀ i m cm news s o, Inv i m cm news → Fm w B C cl s₀ m cm ((I, o) :: news) s → Sd s.heap)
  {m cm : PySem.Str → Option Value} {news : List (Addr × Obj)} {o : Obj} {s : Shared} (ho : Ob 0 o) (hv : Inv 0 m cm news) (F : Fm w B C cl s₀ m cm ((I, o) :: news) s)
  (body : ∀ i v m cm news o s (K : Shared → Prop), i < n → P i v → Inv i m cm news → Fm w B C cl s₀ m cm ((I, o) :: news) s →
   (∀ m' cm' news' s', Inv (i + 1) m' cm' news' → Fm w B C cl s₀ m' cm' ((I, o) :: news') s' → K s') →
   wpAny (M w) A (letOwnedTupleGo target (.ref I) v) (fun _ s₁' => wpAny (M w) A (assign target env v) (fun _ s₂ => wpAny (M w) A (ifsOk env ifs) (fun ok s₃ =>
     if ok = true then wpAny (M w) A (eval iter' env) (fun x s₄ => wpAny (M w) A (pyIter x) (fun it' s₅ => CompS w A (.ListComp elt gens scope pos) (d + 1) it' acc env K s₅) NoE s₄) NoE s₃
     else K s₃) NoE s₂) NoE s₁') NoE s)
  (hq : ∀ m' cm' news' s', Inv n m' cm' news' → Fm w B C cl s₀ m' cm' news' s' → Q s') : CompS w A (.ListComp elt gens scope pos) d (.ref I) acc env Q s := by
 have run := zgL (acc := acc) (scope := scope) (pos := pos) S hg hn hf hh Inv hSd body n 0 m cm news o s (by ktn_no "om") ho hv F hq
 exact za3 hg run (self A o s _ ho (F.at 0 rfl) run)
end
section
variable {w : World} {B : Heap} {L : Addr} {m : PySem.Str → Option Value} {cl : List (PySem.Str × Addr)} {cm : PySem.Str → Option Value} {news : List (Addr × Obj)} {s₀ : Shared} {A : Around} {E : Value → Shared → Prop}
 {h : Heap} {g : Array GenState} {d d₀ : Drawn} {tk tk₀ : Nat} {os : OsState} {D : Addr} {v : Value} {vs : List Value} {k i : Nat} {Q : Value → Shared → Prop}
theorem app_at (i : Nat) (F : Fm w B L cl s₀ m cm news ⟨h, g, d₀, tk₀, os⟩) (hi : news[i]? = some (D, lsO vs k)) (hsz : vs.length ≤ 100000)
  (q : ∀ h', Fm w B L cl s₀ m cm (news.set i (D, lsO (vs ++ [v]) (k + 1))) ⟨h', g, d, tk, os⟩ → Q .none ⟨h', g, d, tk, os⟩) : wpAny (M w) A (call (.builtin "list.append") [.ref D, v]) Q E ⟨h, g, d, tk, os⟩ := by
 refine append_at (F.at i hi) (fun h₂ hs₂ hx₂ => ?_) (Nat.le_trans (by simpa using hsz) (show (100000 : Nat) ≤ sizeLine by decide))
 exact q h₂ (F.set1 (i := i) (o' := lsO (vs ++ [v]) (k + 1)) hi hs₂ (by simpa using hx₂))
end
noncomputable abbrev inV (l : List (Int × Tok)) : List Value := l.map fun p => .int p.1 p.2
noncomputable abbrev ObR (a : Int) (n : Nat) : Nat → Obj → Prop := fun i o => o = ⟨.type "range_iterator", none, .fields #[rawInt (a + (i : Nat) * 1), rawInt ((n : Int) - (i : Nat)), rawInt 1], #[]⟩
theorem zgN (a : Int) (n : Nat) : Builtin.Range.rangeSize a (a + n) 1 = n := by
 unfold Builtin.Range.rangeSize
 rw [if_pos (by decide)]
 by_cases h : a + (n : Int) > a
 ·rw [if_pos h]; rw [show (1 : Int) = 1 from rfl, Int.ediv_one]; ktn_no "o4"
 ·rw [if_neg h]; ktn_no "o4"
theorem zhq (a n : Nat) (hk : a + n ≤ 100000) : Builtin.Range.small (a : Int) ((a : Int) + n) 1 = true := by
 unfold Builtin.Range.small
 simp only [zgN]
 unfold Builtin.Range.rangeFitsLong
 simp
 ktn_no "o4"
section
variable {w : World} {B : Heap} {L : Addr} {m : PySem.Str → Option Value} {cl : List (PySem.Str × Addr)} {cm : PySem.Str → Option Value} {news : List (Addr × Obj)} {s₀ : Shared} {A : Around}
 {h : Heap} {g : Array GenState} {d d₀ : Drawn} {tk tk₀ : Nat} {os : OsState} {E : Value → Shared → Prop}
theorem zat {r : Addr} {a n : Nat} {t u v : Tok} {Q : Value → Shared → Prop} (F : Fm w B L cl s₀ m cm ((r, ⟨.type "range", none, .fields #[.int (a : Int) t, .int ((a : Int) + n) u, .int 1 v], #[]⟩) :: news) ⟨h, g, d₀, tk₀, os⟩) (hn : a + n ≤ 100000)
  (q : ∀ I o h', ObR a n 0 o → Fm w B L cl s₀ m cm ((I, o) :: news) ⟨h', g, d, tk, os⟩ → Q (.ref I) ⟨h', g, d, tk, os⟩) : wpAny (M w) A (pyIter (.ref r)) Q E ⟨h, g, d, tk, os⟩ := by
 refine wpAny_pyIter_range (F.at 0 rfl) (zhq a n hn) ?_
 rw [zgN]
 have F₂ := F.push1 (d := d) (tk := tk) ⟨.type "range_iterator", none, .fields #[rawInt (a : Int), rawInt (n : Int), rawInt 1], #[]⟩
 refine q _ _ _ (by show _ = _; simp) (F₂.erase 1)
theorem range1 {n : Nat} {t : Tok} {Q : Value → Shared → Prop} (F : Fm w B L cl s₀ m cm news ⟨h, g, d₀, tk₀, os⟩)
  (q : ∀ r h' t' u' v' tk', Fm w B L cl s₀ m cm ((r, ⟨.type "range", none, .fields #[.int ((0 : Nat) : Int) t', .int (((0 : Nat) : Int) + n) u', .int 1 v'], #[]⟩) :: news) ⟨h', g, d, tk', os⟩ → Q (.ref r) ⟨h', g, d, tk', os⟩) :
  wpAny (M w) A (call (.type "range") [.int n t]) Q E ⟨h, g, d, tk, os⟩ := by
 refine call_range_1 ?_
 have F₂ := F.push1 (d := d) (tk := tk + 1 + 1) ⟨.type "range", none, .fields #[.int ((0 : Nat) : Int) tk, .int (n : Int) t, .int 1 (tk + 1)], #[]⟩
 refine q _ _ tk t (tk + 1) _ ?_
 rw [show (((0 : Nat) : Int) + n) = n from by simp]
 exact F₂
theorem range2 {a n : Nat} {e : Int} {t u : Tok} {Q : Value → Shared → Prop} (F : Fm w B L cl s₀ m cm news ⟨h, g, d₀, tk₀, os⟩) (he : e = (a : Int) + n)
  (q : ∀ r h' t' u' v' tk', Fm w B L cl s₀ m cm ((r, ⟨.type "range", none, .fields #[.int (a : Int) t', .int ((a : Int) + n) u', .int 1 v'], #[]⟩) :: news) ⟨h', g, d, tk', os⟩ → Q (.ref r) ⟨h', g, d, tk', os⟩) :
  wpAny (M w) A (call (.type "range") [.int a t, .int e u]) Q E ⟨h, g, d, tk, os⟩ := by
 subst he
 refine call_range_2 ?_
 have F₂ := F.push1 (d := d) (tk := tk + 1) ⟨.type "range", none, .fields #[.int (a : Int) t, .int ((a : Int) + n) u, .int 1 tk], #[]⟩
 exact q _ _ t u tk _ F₂
theorem zak {x : Addr} {i : Nat} {vs : List Value} {k : Nat} {Q : Value → Shared → Prop} (F : Fm w B L cl s₀ m cm news ⟨h, g, d₀, tk₀, os⟩) (hi : news[i]? = some (x, lsO vs k))
  (q : ∀ I h', Fm w B L cl s₀ m cm ((I, itO x 0) :: news) ⟨h', g, d, tk, os⟩ → Q (.ref I) ⟨h', g, d, tk, os⟩) : wpAny (M w) A (pyIter (.ref x)) Q E ⟨h, g, d, tk, os⟩ := by
 refine wpAny_pyIter_list (items := vs.toArray) ⟨_, F.at i hi, rfl, _, rfl⟩ ?_
 have F₂ := F.push1 (d := d) (tk := tk) (itO x 0)
 exact q _ _ F₂
end
section
variable {w : World} {B : Heap} {C I D : Addr} {cl : List (PySem.Str × Addr)} {s₀ : Shared} {A : Around} {n : Nat} {P : Nat → Value → Prop} {Ob : Nat → Obj → Prop} {Sd : Heap → Prop}
 {elt target iter : Expr} {gens : List Comprehension} {scope : Scope} {pos : Pos} {d : Nat} {env : Env} {Q : Shared → Prop}
theorem zas (S : Steps w I n P Ob Sd) (self : SelfI w I Ob) (hg : gens[d]? = some ⟨target, iter, [], 0⟩) (hn : gens[d + 1]? = none) (hh : A.handled = none) (hsz : n ≤ 100000) (R : Nat → Value → Prop)
  {m cm : PySem.Str → Option Value} {rest : List (Addr × Obj)} {k₀ : Nat} {o : Obj} {s : Shared} (ho : Ob 0 o) (F : Fm w B C cl s₀ m cm ((I, o) :: (D, lsO [] k₀) :: rest) s)
  (hSd : ∀ m l k s o, Fm w B C cl s₀ m cm ((I, o) :: (D, lsO l k) :: rest) s → Sd s.heap)
  (body : ∀ i v m l k o s (K : Value → Shared → Prop), i < n → P i v → Fm w B C cl s₀ m cm ((I, o) :: (D, lsO l k) :: rest) s →
   (∀ y m' s', R i y → Fm w B C cl s₀ m' cm ((I, o) :: (D, lsO l k) :: rest) s' → K y s') →
   wpAny (M w) A (letOwnedTupleGo target (.ref I) v) (fun _ s₁' => wpAny (M w) A (assign target env v) (fun _ s₂ => wpAny (M w) A (eval elt env) K NoE s₂) NoE s₁') NoE s)
  (hq : ∀ m' l k s', l.length = n → (∀ j y, l[j]? = some y → R j y) → Fm w B C cl s₀ m' cm ((D, lsO l k) :: rest) s' → Q s') : CompS w A (.ListComp elt gens scope pos) d (.ref I) (.ref D) env Q s := by
 refine zcT S self hg hn hh (fun i m cm' news => cm' = cm ∧ ∃ l k, news = (D, lsO l k) :: rest ∧ l.length = i ∧ ∀ j y, l[j]? = some y → R j y) ?_ ho ⟨rfl, [], _, rfl, rfl, fun j y e => by simp at e⟩ F ?_ ?_
 ·rintro i m cm' news s o ⟨rfl, l, k, rfl, _⟩ F
  exact hSd _ _ _ _ _ F
 ·rintro i v m cm' news o s K hi hP ⟨rfl, l, k, rfl, hl, hR⟩ F q
  refine wpAny_mono (body i v m l k o s _ hi hP F fun y m' s' hy F' => ?_) (fun _ s₁ h₁ => wpAny_mono h₁ (fun _ s₂ h₂ => wpAny_tests_nil (by rw [if_pos rfl]; exact h₂)) fun _ _ z => z) fun _ _ z => z
  obtain ⟨h, g, dd, tk, os⟩ := s'
  refine app_at 1 F' rfl (Nat.le_trans (Nat.le_of_eq hl) (Nat.le_trans (Nat.le_of_lt hi) hsz)) fun h' F'' => q _ _ _ _ ⟨rfl, l ++ [y], _, rfl, by simp [hl], fun j z e => ?_⟩ F''
  by_cases hj : j < l.length
  ·rw [List.getElem?_append_left hj] at e; exact hR j z e
  ·have hj := Nat.le_of_not_lt hj
   rw [List.getElem?_append_right hj] at e
   have : j - l.length = 0 := Nat.lt_one_iff.mp (List.getElem?_eq_some_iff.mp e).1
   rw [this] at e
   have hji : j = i := (Nat.le_antisymm (Nat.le_of_sub_eq_zero this) hj).trans hl
   subst hji
   cases e; exact hy
 ·rintro m' cm' news' s' ⟨rfl, l, k, rfl, hl, hR⟩ F'
  exact hq _ _ _ _ hl hR F'
end
section
variable {w : World} {B : Heap} {L : Addr} {m : PySem.Str → Option Value} {cl : List (PySem.Str × Addr)} {cm : PySem.Str → Option Value} {news : List (Addr × Obj)} {s₀ : Shared} {A : Around}
 {h : Heap} {g : Array GenState} {d d₀ : Drawn} {tk tk₀ : Nat} {os : OsState} {E : Value → Shared → Prop} {env : Env}
inductive SliceIn (w : World) (vl vu : Value) (Q : Value → Shared → Prop) : Value → Shared → Prop
 | mk {B : Heap} {L : Addr} {m : PySem.Str → Option Value} {cl : List (PySem.Str × Addr)} {cm : PySem.Str → Option Value} {news : List (Addr × Obj)} {s₀ : Shared} {h : Heap} {g : Array GenState} {d : Drawn} {tk : Nat} {os : OsState} {x : Addr} {i : Nat} {vs : List Value} {k : Nat} {lo hi : Option Int}
  (F : Fm w B L cl s₀ m cm news ⟨h, g, d, tk, os⟩) (ha : news[i]? = some (x, lsO vs k)) (hz : vs.length ≤ 100000) (p1 : IsPart vl lo) (p2 : IsPart vu hi)
  (q : ∀ y h' k, Fm w B L cl s₀ m cm ((y, lsO (slicePick vs.toArray lo hi none).toList k) :: news) ⟨h', g, d, tk, os⟩ → Q (.ref y) ⟨h', g, d, tk, os⟩) : SliceIn w vl vu Q (.ref x) ⟨h, g, d, tk, os⟩
theorem za7 {value : Expr} {lower upper : Option Expr} {p pos : Pos} {Q : Value → Shared → Prop} {s : Shared}
  (q : wpAny (M w) A (eval value env) (fun o s₁ => wpAny (M w) A (evalPart lower env) (fun vl s₂ => wpAny (M w) A (evalPart upper env) (fun vu s₃ => SliceIn w vl vu Q o s₃) E s₂) E s₁) E s)
  (ht : ∀ o r, letTemporaryGo value o r = pure () := by intro _ _; rfl) : wpAny (M w) A (eval (.Subscript value (.Slice lower upper none p) pos) env) Q E s := by
 refine wpAny_Subscript_list_slice (wpAny_mono q (fun o s₁ h₁ => wpAny_mono h₁ (fun vl s₂ h₂ => wpAny_mono h₂ (fun vu s₃ h₃ => ?_) fun _ _ z => z) fun _ _ z => z) fun _ _ z => z) ht
 cases h₃ with
 | @mk B L m cl cm news s₀ h₃ g₃ d₃ k₃ o₃ x i vs k lo hi F ha hsz p1 p2 q =>
 refine ⟨x, vs.toArray, lo, hi, rfl, ⟨_, F.at i ha, rfl, _, rfl⟩, Nat.le_trans (by simpa using hsz) (show (100000 : Nat) ≤ sizeLine by decide), p1, p2, ?_⟩
 have F₁ := F.push1 (g := g₃) (d := d₃) (tk := k₃) ⟨.type "slice", none, .fields #[vl, vu, .none], #[]⟩
 have F₂ := (F₁.push1 (g := g₃) (d := d₃) (tk := k₃) ⟨.type "list", none, .seq (slicePick vs.toArray lo hi none), #[]⟩).erase 1
 rw [show (h₃.push ⟨.type "slice", none, .fields #[vl, vu, .none], #[]⟩).objs.size = h₃.objs.size + 1 from Heap.size_push _ _] at F₂
 exact q _ _ _ F₂
theorem zaI {s : Shared} {value slice : Expr} {x : Addr} {vs : List Value} {n : Nat} {k : Nat} {u : Tok} {v : Value} {Q : Value → Shared → Prop} (hx : s.heap.get? x = some (lsO vs n)) (hk : k < 100000) (hv : vs[k]? = some v) (q : Q v s)
  (hs : subscripted slice false (.ref x) (.int k u) = operate [.ref x, .int k u] (getItem (.ref x) (.int k u)) := by with_unfolding_all rfl) :
  wpAny (M w) A (subscriptTail value slice (.ref x) (.int k u)) Q E s := by
 have hl : s.heap.IsList x vs.toArray := ⟨_, hx, rfl, _, rfl⟩
 exact zbP hl.typeIs slot_list_getitem.lookup (fun _ _ _ h => wpAny_letTemporaryGo h) (wpAny_getItem_list hl (by ktn_no "om") (by ktn_no "om") (by simpa using hv) q) hs
end
inductive Lists : List (List Int) → List Value → List (Addr × Obj) → Prop
 | nil : Lists [] [] []
 | snoc {xs vs l a y k} : Lists xs vs l → Lists (xs ++ [y.map (·.1)]) (vs ++ [.ref a]) (l ++ [(a, lsO (inV y) k)])
noncomputable abbrev nlS : PySem.Str := Str.ofString "\n"
noncomputable abbrev scS : PySem.Str := Str.ofString ";"
noncomputable def rowStrs (mx : Int) (ws : List PySem.Str) : List PySem.Str := let st := ws.foldl (fun st v => chunk mx st v) ([], []); st.1 ++ [accStr st.2]
noncomputable def rowV (mx : Int) (ws : List PySem.Str) : List Int := (Txt.split (Txt.join nlS (rowStrs mx ws)) nlS).map fun r => Txt.count r scS
noncomputable def topOf (st : List (PySem.Str × PySem.Str)) : PySem.Str × PySem.Str := st.getLastD ("", "")
noncomputable def quoteF (x : PySem.Str) : PySem.Str := quote2 (quote1 x)
noncomputable def cat (l : List PySem.Str) : PySem.Str := ⟨(l.flatMap (·.cps.toList)).toArray⟩
theorem zb4 : cat [] = ⟨#[]⟩ := rfl
theorem zar {a b : PySem.Str} (h : a.cps.toList = b.cps.toList) : a = b := by
 obtain ⟨⟨a⟩⟩ := a; obtain ⟨⟨b⟩⟩ := b; simp at h; rw [h]
theorem zan (l : List PySem.Str) : (cat l).cps.toList = l.flatMap (·.cps.toList) := by simp [cat]
theorem zaq : ∀ l : List PySem.Str, Str.join (⟨#[]⟩ : PySem.Str) l = cat l
 | [] => rfl
 | [a] => zar (by simp [cat, Str.join])
 | a :: b :: r => by
  have ih := zaq (b :: r)
  refine zar ?_
  show (a ++ (⟨#[]⟩ : PySem.Str) ++ Str.join (⟨#[]⟩ : PySem.Str) (b :: r)).cps.toList = _
  rw [ih, zan]
  simp only [Str.cps_append, Array.toList_append, zan]
  simp
noncomputable abbrev pr (v : PySem.Str) : PySem.Str × PySem.Str := (e0, v)
theorem e0_app (v : PySem.Str) : e0 ++ v = v := zar (by simp [Str.cps_append]; decide)
theorem zcp (l : List PySem.Str) : accStr (l.map pr) = cat l := by
 unfold accStr
 rw [List.map_map, show ((fun y : PySem.Str × PySem.Str => y.1 ++ y.2) ∘ pr) = id from funext fun v => e0_app v, List.map_id]
 exact (StrLaws.glued_eq_join _ _).trans (zaq l)
noncomputable def lens (l : List PySem.Str) : Int := (l.map fun v => (v.length : Int)).sum
theorem zei (l : List PySem.Str) : accLen 0 (l.map pr) = lens l := by
 unfold accLen lens
 rw [List.map_map, show ((fun y : PySem.Str × PySem.Str => ((y.1.length : Int) + (y.2.length : Int))) ∘ pr) = (fun v : PySem.Str => (v.length : Int)) from funext fun v => by
  show ((e0.length : Nat) : Int) + _ = _
  rw [show e0.length = 0 by decide]; simp]
 simp
noncomputable def gr (mx : Int) (st : List (List PySem.Str) × List PySem.Str) (v : PySem.Str) : List (List PySem.Str) × List PySem.Str :=
 if lens (st.2 ++ [v]) > mx ∧ st.2.isEmpty = false then (st.1 ++ [st.2], [v]) else (st.1, st.2 ++ [v])
noncomputable def rowsG (mx : Int) (ws : List PySem.Str) : List (List PySem.Str) := let st := ws.foldl (gr mx) ([], []); st.1 ++ [st.2]
theorem zhJ (mx : Int) (st : List (List PySem.Str) × List PySem.Str) (v : PySem.Str) : chunk mx (st.1.map cat, st.2.map pr) v = ((gr mx st v).1.map cat, (gr mx st v).2.map pr) := by
 unfold chunk gr
 have e : (st.2.map pr) ++ [(e0, v)] = (st.2 ++ [v]).map pr := by simp
 dsimp only
 rw [e, zei, show (st.2.map pr).isEmpty = st.2.isEmpty by cases st.2 <;> rfl, zcp]
 split <;> simp
theorem fold_gr (mx : Int) : ∀ (ws : List PySem.Str) (st : List (List PySem.Str) × List PySem.Str), ws.foldl (fun st v => chunk mx st v) (st.1.map cat, st.2.map pr) = ((ws.foldl (gr mx) st).1.map cat, (ws.foldl (gr mx) st).2.map pr) := by
 intro ws
 induction ws with
 | nil =>
  intro st
  exact rfl
 | cons v ws ih =>
  intro st
  rw [List.foldl_cons, List.foldl_cons, zhJ]; exact ih _
theorem zbC (mx : Int) (ws : List PySem.Str) : rowStrs mx ws = (rowsG mx ws).map cat := by
 unfold rowStrs rowsG
 have := fold_gr mx ws ([], [])
 simp only [List.map_nil] at this
 rw [this]
 simp [zcp]
theorem gr_flat (mx : Int) (st : List (List PySem.Str) × List PySem.Str) (v : PySem.Str) : (gr mx st v).1.flatten ++ (gr mx st v).2 = (st.1.flatten ++ st.2) ++ [v] := by
 unfold gr; split <;> simp
theorem zgD (mx : Int) : ∀ (ws : List PySem.Str) (st : List (List PySem.Str) × List PySem.Str), (ws.foldl (gr mx) st).1.flatten ++ (ws.foldl (gr mx) st).2 = (st.1.flatten ++ st.2) ++ ws := by
 intro ws
 induction ws with
 | nil =>
  intro st
  simp
 | cons v ws ih =>
  intro st
  rw [List.foldl_cons, ih, gr_flat]; simp
theorem zcH (mx : Int) (ws : List PySem.Str) : (rowsG mx ws).flatten = ws := by
 have := zgD mx ws ([], [])
 unfold rowsG
 simpa using this
theorem ze1 (mx : Int) : ∀ (ws : List PySem.Str) (st : List (List PySem.Str) × List PySem.Str), (ws.foldl (gr mx) st).1.length ≤ st.1.length + ws.length := by
 intro ws
 induction ws with
 | nil =>
  intro st
  simp
 | cons v ws ih =>
  intro st
  have := ih (gr mx st v)
  have h : (gr mx st v).1.length ≤ st.1.length + 1 := by unfold gr; split <;> simp
  simp only [List.foldl_cons, List.length_cons]
  ktn_no "o4"
theorem zdJ (mx : Int) (ws : List PySem.Str) : (rowsG mx ws).length ≤ ws.length + 1 := by
 have := ze1 mx ws ([], [])
 unfold rowsG
 simp at this ⊢
 exact this
theorem zfd (l : List PySem.Str) : (cat l).length = (l.map (·.length)).sum := by
 show (cat l).cps.size = _
 rw [← Array.length_toList, zan, List.length_flatMap]
 rfl
theorem zd2 {N : Nat} : ∀ (rows : List (List PySem.Str)), (rows.flatten.map (·.length)).sum ≤ N → ∀ r ∈ rows, (r.map (·.length)).sum ≤ N := by
 intro rows
 induction rows with
 | nil =>
  intro _ r h
  simp at h
 | cons a rows ih =>
  intro hN r h
  rw [List.flatten_cons, List.map_append, List.sum_append] at hN
  rcases List.mem_cons.mp h with rfl | h
  ·ktn_no "o4"
  ·exact ih (by ktn_no "om") r h
theorem row_le {mx : Int} {ws : List PySem.Str} {N : Nat} (h : (ws.map (·.length)).sum ≤ N) : ∀ y ∈ rowStrs mx ws, y.length ≤ N := by
 intro y hy
 rw [zbC] at hy
 (refine x1_2 (List.mem_map.mp hy) ?_; intro r hr eqX2; subst eqX2)
 rw [zfd]
 exact zd2 (rowsG mx ws) (by rw [zcH]; exact h) r hr
theorem sum_le {N : Nat} : ∀ (ws : List PySem.Str), (∀ y ∈ ws, y.length ≤ N) → (ws.map (·.length)).sum ≤ ws.length * N := by
 intro ws
 induction ws with
 | nil =>
  intro _
  simp
 | cons a ws ih =>
  intro h
  have := ih fun y hy => h y (.tail _ hy)
  have h2 := h a (.head _)
  simp only [List.map_cons, List.sum_cons, List.length_cons]
  rw [Nat.add_mul, Nat.one_mul, Nat.add_comm]; exact Nat.add_le_add this h2
theorem zcf (sep : PySem.Str) : ∀ (l : List PySem.Str), (Str.join sep l).length ≤ (l.map (·.length)).sum + l.length * sep.length
 | [] => Nat.zero_le _
 | [a] => by simp [Str.join]
 | a :: b :: r => by
  have ih := zcf sep (b :: r)
  show (a ++ sep ++ Str.join sep (b :: r)).length ≤ _
  rw [Str.length_append, Str.length_append]
  simp only [List.map_cons, List.sum_cons, List.length_cons] at ih ⊢
  have e : (r.length + 1 + 1) * sep.length = (r.length + 1) * sep.length + sep.length := by rw [Nat.add_mul, Nat.one_mul]
  ktn_no "o4"
theorem zdU {mx : Int} {ws : List PySem.Str} (hn : ws.length ≤ 20) (h : ∀ y ∈ ws, y.length ≤ 100) : JoinOk nlS (rowStrs mx ws) = true ∧ (Txt.join nlS (rowStrs mx ws)).length ≤ 90000 := by
 have hs : (ws.map (·.length)).sum ≤ 2000 := Nat.le_trans (sum_le ws h) (Nat.le_trans (Nat.mul_le_mul_right 100 hn) (by decide))
 have hr := row_le (mx := mx) hs
 have hl : (rowStrs mx ws).length ≤ 21 := by rw [zbC, List.length_map]; exact Nat.le_trans (zdJ mx ws) (Nat.succ_le_succ hn)
 have h1 : nlS.length = 1 := by decide
 constructor
 ·unfold JoinOk
  rw [StrLaws.joinFits hr (by rw [h1]; ktn_no "o4")]
  rfl
 ·rw [show Txt.join nlS (rowStrs mx ws) = Str.join nlS (rowStrs mx ws) from StrLaws.glued_eq_join _ _]
  refine Nat.le_trans (zcf nlS _) ?_
  have := sum_le _ hr
  rw [h1]
  have := Nat.mul_le_mul_right 2000 hl
  ktn_no "o4"
noncomputable def more (W s : Int) : List PySem.Str → Nat
 | [] => 0
 | u :: us => if s + u.length ≤ W then more W (s + u.length) us + 1 else 0
theorem zb9 (l : List PySem.Str) (v : PySem.Str) : lens (l ++ [v]) = lens l + v.length := by
 unfold lens; simp
theorem zgk (W : Int) : ∀ (us : List PySem.Str) (done : List (List PySem.Str)) (row : List PySem.Str), row.isEmpty = false →
  us.foldl (gr W) (done, row) = match us.drop (more W (lens row) us) with
   | [] => (done, row ++ us)
   | u :: rest => rest.foldl (gr W) (done ++ [row ++ us.take (more W (lens row) us)], [u]) := by
 intro us
 induction us with
 | nil =>
  intro done row _
  simp [more]
 | cons u us ih =>
  intro done row h
  rw [List.foldl_cons]
  unfold more
  by_cases q : lens row + u.length ≤ W
  ·have e : gr W (done, row) u = (done, row ++ [u]) := by
    unfold gr
    rw [if_neg]
    rw [zb9]
    intro x
    exact absurd x.1 (by dsimp only; ktn_no "o4")
   rw [e, if_pos q, ih done (row ++ [u]) (by simp), zb9, List.drop_succ_cons]
   cases us.drop (more W (lens row + u.length) us) <;> simp
  ·have e : gr W (done, row) u = (done ++ [row], [u]) := by
    unfold gr
    rw [if_pos]
    rw [zb9]
    exact ⟨by dsimp only; ktn_no "o4", h⟩
   rw [e, if_neg q]
   simp
theorem zf4 (W : Int) : ∀ (us : List PySem.Str) (done : List (List PySem.Str)) (row : List PySem.Str),
  us.foldl (gr W) (done, row) = (done ++ (us.foldl (gr W) ([], row)).1, (us.foldl (gr W) ([], row)).2) := by
 intro us
 induction us with
 | nil =>
  intro done row
  simp
 | cons u us ih =>
  intro done row
  rw [List.foldl_cons, List.foldl_cons]
  have e : gr W (done, row) u = (done ++ (gr W ([], row) u).1, (gr W ([], row) u).2) := by
   unfold gr
   dsimp only
   split <;> simp
  rw [e, ih (done ++ _), ih (gr W ([], row) u).1]
  simp
theorem zfl (W : Int) (v : PySem.Str) (vs : List PySem.Str) :
  rowsG W (v :: vs) = (v :: vs.take (more W v.length vs)) :: (match vs.drop (more W v.length vs) with | [] => [] | u :: rest => rowsG W (u :: rest)) := by
 have h0 : ∀ (u : PySem.Str) (r : List PySem.Str), rowsG W (u :: r) = (r.foldl (gr W) ([], [u])).1 ++ [(r.foldl (gr W) ([], [u])).2] := fun u r => by
  unfold rowsG
  rw [List.foldl_cons]
  have e : gr W ([], []) u = ([], [u]) := by
   unfold gr; rw [if_neg (by intro h; exact absurd h.2 (by decide))]; rfl
  rw [e]
 rw [h0, zgk W vs [] [v] rfl]
 have el : lens [v] = v.length := by unfold lens; simp
 rw [el]
 cases hd : vs.drop (more W v.length vs) with
 | nil =>
  have : vs.take (more W v.length vs) = vs := List.take_of_length_le (List.drop_eq_nil_iff.mp hd)
  rw [this]; simp
 | cons u rest =>
  dsimp only
  rw [zf4, h0]
  simp
noncomputable def cn (W : Int) (ws : List PySem.Str) : List Nat := (rowsG W ws).map List.length
theorem zgG (W : Int) : ∀ (us : List PySem.Str) (s : Int), more W s us ≤ us.length := by
 intro us
 induction us with
 | nil =>
  intro s
  exact Nat.le_refl _
 | cons u us ih =>
  intro s
  unfold more
  have := ih (s + u.length)
  split <;> simp <;> ktn_no "o4"
theorem cn_cons (W : Int) (v : PySem.Str) (vs : List PySem.Str) :
  cn W (v :: vs) = (1 + more W v.length vs) :: (if vs.length ≤ more W v.length vs then [] else cn W (vs.drop (more W v.length vs))) := by
 unfold cn
 rw [zfl, List.map_cons]
 congr 1
 ·have := zgG W vs v.length
  simp [List.length_take]; ktn_no "o4"
 ·cases hd : vs.drop (more W v.length vs) with
  | nil => rw [if_pos (List.drop_eq_nil_iff.mp hd)]; rfl
  | cons u rest =>
   rw [if_neg (fun q => by rw [List.drop_eq_nil_iff.mpr q] at hd; cases hd)]
theorem zgd (W : Int) : ∀ (us : List PySem.Str) (s : Int) (j : Nat), j < us.length → (j < more W s us ↔ s + lens (us.take (j + 1)) ≤ W) := by
 intro us
 induction us with
 | nil =>
  intro s j h
  simp at h
 | cons u us ih =>
  intro s j h
  have hl : ∀ l : List PySem.Str, 0 ≤ lens l := fun l => by
   unfold lens
   induction l with
   | nil => simp
   | cons a l ih => simp only [List.map_cons, List.sum_cons]; exact Int.add_nonneg (Int.natCast_nonneg _) ih
  have hc : lens ((u :: us).take (j + 1)) = u.length + lens (us.take j) := by
   unfold lens; simp [List.take_succ_cons]
  rw [hc]
  unfold more
  by_cases q : s + u.length ≤ W
  ·rw [if_pos q]
   cases j with
   | zero =>
    have : lens (us.take 0) = 0 := by unfold lens; simp
    rw [this]
    exact ⟨fun _ => by rw [Int.add_zero]; exact q, fun _ => Nat.succ_pos _⟩
   | succ j =>
    rw [Nat.succ_lt_succ_iff, ih (s + u.length) j (by simpa using h)]
    rw [Int.add_assoc]
  ·rw [if_neg q]
   exact ⟨fun z => absurd z (Nat.not_lt_zero _), fun z => absurd (Int.le_trans (Int.le_add_of_nonneg_right (hl (us.take j))) (by rw [Int.add_assoc]; exact z)) q⟩
theorem zhQ {c : Nat} {x y : List Nat} : ∀ {a b : List Nat}, c ∉ a → c ∉ b → a ++ c :: x = b ++ c :: y → a = b ∧ x = y := by
 intro a
 induction a with
 | nil =>
  intro b ha hb h
  cases b with
  | nil => exact ⟨rfl, (List.cons.inj h).2⟩
  | cons d b => exact absurd ((List.cons.inj h).1 ▸ List.mem_cons_self) hb
 | cons d a ih =>
  intro b ha hb h
  cases b with
  | nil => exact absurd ((List.cons.inj h).1 ▸ List.mem_cons_self) ha
  | cons e b =>
  simp only [List.cons_append, List.cons.injEq] at h
  have := ih (fun q => ha (.tail _ q)) (fun q => hb (.tail _ q)) h.2
  exact ⟨by rw [h.1, this.1], this.2⟩
theorem zdi {c : Nat} {a b y : List Nat} (ha : c ∉ a) (h : a = b ++ c :: y) : False := ha (by rw [h]; simp)
theorem zhk {c : Nat} : ∀ (as bs : List PySem.Str), as ≠ [] → bs ≠ [] → (∀ a ∈ as, c ∉ a.cps.toList) → (∀ b ∈ bs, c ∉ b.cps.toList) → Str.join ⟨#[c]⟩ as = Str.join ⟨#[c]⟩ bs → as = bs := by
 intro as
 induction as with
 | nil => exact fun bs h => absurd rfl h
 | cons a as ih =>
  intro bs _ hbs ha hb h
  cases bs with
  | nil => exact absurd rfl hbs
  | cons b bs =>
   cases as with
   | nil =>
    cases bs with
    | nil => have h : a = b := h; rw [h]
    | cons b' bs =>
     have h := congrArg (fun z : PySem.Str => z.cps.toList) h
     have e : (Str.join ⟨#[c]⟩ (b :: b' :: bs)).cps.toList = b.cps.toList ++ c :: (Str.join ⟨#[c]⟩ (b' :: bs)).cps.toList := by
      show (b ++ (⟨#[c]⟩ : PySem.Str) ++ Str.join ⟨#[c]⟩ (b' :: bs)).cps.toList = _
      simp [Str.cps_append]
     exact (zdi (ha a (.head _)) (by rw [← e]; exact h)).elim
   | cons a' as =>
    cases bs with
    | nil =>
     have h := congrArg (fun z : PySem.Str => z.cps.toList) h
     have e : (Str.join ⟨#[c]⟩ (a :: a' :: as)).cps.toList = a.cps.toList ++ c :: (Str.join ⟨#[c]⟩ (a' :: as)).cps.toList := by
      show (a ++ (⟨#[c]⟩ : PySem.Str) ++ Str.join ⟨#[c]⟩ (a' :: as)).cps.toList = _
      simp [Str.cps_append]
     exact (zdi (hb b (.head _)) (by rw [← e]; exact h.symm)).elim
    | cons b' bs =>
     have h := congrArg (fun z : PySem.Str => z.cps.toList) h
     have e : ∀ (x y : PySem.Str) (l : List PySem.Str), (Str.join ⟨#[c]⟩ (x :: y :: l)).cps.toList = x.cps.toList ++ c :: (Str.join ⟨#[c]⟩ (y :: l)).cps.toList := fun x y l => by
      show (x ++ (⟨#[c]⟩ : PySem.Str) ++ Str.join ⟨#[c]⟩ (y :: l)).cps.toList = _
      simp [Str.cps_append]
     rw [e, e] at h
     obtain ⟨h1, h2⟩ := zhQ (ha a (.head _)) (hb b (.head _)) h
     rw [zar h1, ih (b' :: bs) (by simp) (by simp) (fun x hx => ha x (.tail _ hx)) (fun x hx => hb x (.tail _ hx)) (zar h2)]
theorem zex (x y : PySem.Str) : Txt.split x y ≠ [] := by
 unfold Txt.split
 split
 ·simp
 ·split
  ·simp
  ·rw [StrLaws.partsBetween_eq]
   (refine x2_1 (StrLaws.partsFrom_ne x y.length 0 (Builtin.Str.occurrences x y 0 x.length (x.length + 1))) ?_; intro p r e)
   rw [e]; simp
theorem zc0 {c : Nat} {l : List PySem.Str} (hl : l ≠ []) (h : ∀ a ∈ l, c ∉ a.cps.toList) : Txt.split (Str.join ⟨#[c]⟩ l) ⟨#[c]⟩ = l :=
 zhk (c := c) _ _ (zex _ _) hl (StrLaws.split_free _ c) h (StrLaws.join_split _ _)
noncomputable def crlS : Bool → List Nat → List Nat
 | _, [] => []
 | cr, c :: r => if c = 10 then (if cr then crlS false r else 13 :: 10 :: crlS false r) else if c = 13 then 13 :: 10 :: crlS true r else c :: crlS false r
noncomputable def dotl : Bool → List Nat → List Nat
 | _, [] => []
 | b, c :: r => if b && c == 46 then 46 :: 46 :: dotl false r else c :: dotl (c == 10) r
noncomputable def quoteZ (x : PySem.Str) : PySem.Str := ⟨(dotl true (crlS false x.cps.toList)).toArray⟩
theorem zbx {x : Array Nat} {s : Nat} (h : s < x.size) : x.toList.drop s = x.getD s 0 :: x.toList.drop (s + 1) := by
 rw [List.drop_eq_getElem_cons (by simpa using h)]
 simp [Array.getD, h]
theorem n0 {a b : Nat} {p : Prop} (h : a ≤ b) (k : b + 1 - a ≤ 0) : p := absurd k (Nat.not_le_of_gt (Nat.sub_pos_of_lt (Nat.lt_succ_of_le h)))
theorem n2 {a b c k : Nat} (hk : b - a ≤ k + 1) (h : a < c) : b - c ≤ k := Nat.le_trans (Nat.sub_le_sub_left h _) (Nat.pred_le_pred hk)
theorem n3 {s t : Nat} (h : s < t) : t - s = t - (s + 1) + 1 := (Nat.succ_pred_eq_of_pos (Nat.sub_pos_of_lt h)).symm
theorem f2_spec (x : Array Nat) : ∀ (k s : Nat), s ≤ x.size → x.size + 1 - s ≤ k → match first2 x k s with
  | some t => s ≤ t ∧ t < x.size ∧ nl (x.getD t 0) = true ∧ crlS false (x.toList.drop s) = (x.toList.drop s).take (t - s) ++ crlS false (x.toList.drop t)
  | none => crlS false (x.toList.drop s) = x.toList.drop s := by
 intro k
 induction k with
 | zero =>
  intro s hs hk
  exact n0 hs hk
 | succ k ih =>
  intro s hs hk
  unfold first2
  by_cases h1 : s ≥ x.size
  ·rw [if_pos h1]
   have : x.toList.drop s = [] := List.drop_eq_nil_iff.mpr (by simpa using h1)
   dsimp only
   rw [this]; rfl
  ·rw [if_neg h1]
   by_cases h2 : nl (x.getD s 0) = true
   ·rw [if_pos h2]
    refine ⟨Nat.le_refl _, Nat.lt_of_not_le h1, h2, ?_⟩
    simp
   ·rw [if_neg h2]
    have h1 := Nat.lt_of_not_le h1
    have ih := ih (s + 1) h1 (n2 hk (Nat.lt_succ_self _))
    have hd := zbx (x := x) (s := s) h1
    have hc : crlS false (x.toList.drop s) = x.getD s 0 :: crlS false (x.toList.drop (s + 1)) := by
     rw [hd]
     have h3 : x.getD s 0 ≠ 10 ∧ x.getD s 0 ≠ 13 := by
      unfold nl at h2
      simp at h2
      simpa using h2
     conv => lhs; unfold crlS
     rw [if_neg h3.1, if_neg h3.2]
    cases hf : first2 x k (s + 1) with
    | none =>
     rw [hf] at ih
     dsimp only at ih ⊢
     rw [hc, ih, ← hd]
    | some t =>
     rw [hf] at ih
     dsimp only at ih ⊢
     (refine x0_4 (ih) ?_; try clear ih; intro a b c e)
     refine ⟨Nat.le_of_succ_le a, b, c, ?_⟩
     rw [hc, e, hd, n3 a, List.take_succ_cons]
     rfl
theorem zgM {l : List Nat} (h : l.head? ≠ some 10) : crlS true l = crlS false l := by
 cases l with
 | nil => rfl
 | cons c r =>
  have : c ≠ 10 := fun e => h (by rw [e]; rfl)
  conv => lhs; unfold crlS
  conv => rhs; unfold crlS
  rw [if_neg this, if_neg this]
theorem crl_at {x : Array Nat} {t : Nat} (ht : t < x.size) (h : nl (x.getD t 0) = true) : crlS false (x.toList.drop t) = 13 :: 10 :: crlS false (x.toList.drop (end2 x t)) := by
 rw [zbx ht]
 unfold nl at h
 rw [Bool.or_eq_true, beq_iff_eq, beq_iff_eq] at h
 conv => lhs; unfold crlS
 rcases h with h | h
 ·rw [h, if_pos rfl, if_neg Bool.false_ne_true]
  unfold end2
  rw [h, if_neg (by simp)]
 ·rw [h, if_neg (by decide), if_pos rfl]
  unfold end2
  rw [h]
  by_cases q : t + 1 < x.size ∧ (x.getD (t + 1) 0 == 10) = true
  ·rw [if_pos ⟨rfl, q⟩, zbx q.1, beq_iff_eq.mp q.2]
   conv => lhs; unfold crlS
   rw [if_pos rfl, if_pos rfl]
  ·rw [if_neg (fun z => q z.2)]
   rw [zgM]
   intro e
   apply q
   by_cases h2 : t + 1 < x.size
   ·rw [zbx h2] at e
    simp only [List.head?_cons, Option.some.injEq] at e
    exact ⟨h2, by rw [beq_iff_eq]; exact e⟩
   ·rw [List.drop_eq_nil_iff.mpr (by simpa using h2)] at e
    cases e
theorem zbR (x : Array Nat) (a b : Nat) : (x.extract a b).toList = (x.toList.drop a).take (b - a) := by simp
theorem zaD (p : PySem.Str) (l : List PySem.Str) : (cat (p :: l)).cps.toList = p.cps.toList ++ (cat l).cps.toList := by
 rw [zan, zan]; rfl
theorem zdB : crlfS.cps.toList = [13, 10] := by decide
theorem zdE : dotsS.cps.toList = [46, 46] := by decide
theorem sub_crl (x : PySem.Str) : ∀ (k dn : Nat), dn ≤ x.cps.size → x.cps.size + 1 - dn ≤ k → (cat (subGo (find2 x.cps) x crlfS k dn)).cps.toList = crlS false (x.cps.toList.drop dn) := by
 intro k
 induction k with
 | zero =>
  intro dn h hk
  exact n0 h hk
 | succ k ih =>
  intro dn h hk
  unfold subGo
  have fin : crlS false (x.cps.toList.drop dn) = x.cps.toList.drop dn → (cat (if dn < x.cps.size then [⟨x.cps.extract dn x.cps.size⟩] else [])).cps.toList = crlS false (x.cps.toList.drop dn) := fun e => by
   rw [e]
   by_cases q : dn < x.cps.size
   ·rw [if_pos q, zaD, zbR, zb4, List.take_of_length_le (by simp)]
    simp
   ·rw [if_neg q, zb4, List.drop_eq_nil_iff.mpr (by simpa using q)]
  by_cases hlt : dn < x.cps.size
  ·have hf : find2 x.cps dn = (first2 x.cps (x.cps.size + 1 - dn) dn).map fun t => (t, end2 x.cps t) := by unfold find2; rw [if_pos hlt]
   have sp := f2_spec x.cps (x.cps.size + 1 - dn) dn h (Nat.le_refl _)
   rw [hf]
   cases hq : first2 x.cps (x.cps.size + 1 - dn) dn with
   | none =>
    rw [hq] at sp
    exact fin sp
   | some t =>
    rw [hq] at sp
    (refine x0_4 (sp) ?_; try clear sp; intro a b c e)
    dsimp only [Option.map]
    have hb := zfR b
    have ih := ih (end2 x.cps t) hb.2 (n2 hk (Nat.lt_of_le_of_lt a hb.1))
    rw [e, crl_at b c]
    by_cases q : dn < t
    ·rw [if_pos q]
     show (cat (⟨x.cps.extract dn t⟩ :: crlfS :: _)).cps.toList = _
     rw [zaD, zaD, ih, zdB, zbR]
     rfl
    ·rw [if_neg q]
     have : t = dn := Nat.le_antisymm (Nat.le_of_not_lt q) a
     subst this
     show (cat (crlfS :: _)).cps.toList = _
     rw [zaD, ih, zdB]
     simp
  ·have hf : find2 x.cps dn = none := by unfold find2; rw [if_neg hlt]
   rw [hf]
   refine fin ?_
   rw [List.drop_eq_nil_iff.mpr (by simpa using hlt)]
   rfl
theorem zfy (x : Array Nat) : ∀ (k s : Nat), s ≤ x.size → x.size + 1 - s ≤ k → match find1 x k s with
  | some (a, b) => s ≤ a ∧ a < x.size ∧ b = a + 1 ∧ dotl (bol x s) (x.toList.drop s) = (x.toList.drop s).take (a - s) ++ 46 :: 46 :: dotl (bol x b) (x.toList.drop b)
  | none => dotl (bol x s) (x.toList.drop s) = x.toList.drop s := by
 intro k
 induction k with
 | zero =>
  intro s hs hk
  exact n0 hs hk
 | succ k ih =>
  intro s hs hk
  unfold find1
  have hbol : bol x (s + 1) = (x.getD s 0 == 10) := by unfold bol; simp
  by_cases h1 : hit1 x s = true
  ·rw [if_pos h1]
   unfold hit1 at h1
   rw [Bool.and_eq_true, Bool.and_eq_true, decide_eq_true_eq, beq_iff_eq] at h1
   (refine x0_3 (h1) ?_; try clear h1; intro p1 p2 p3)
   refine ⟨Nat.le_refl _, p2, rfl, ?_⟩
   rw [zbx p2, p3, p1, hbol, p3]
   simp [dotl]
  ·rw [if_neg h1]
   by_cases h2 : s < x.size
   ·rw [if_pos h2]
    have ih := ih (s + 1) h2 (n2 hk (Nat.lt_succ_self _))
    have hd := zbx (x := x) (s := s) h2
    have hc : dotl (bol x s) (x.toList.drop s) = x.getD s 0 :: dotl (bol x (s + 1)) (x.toList.drop (s + 1)) := by
     rw [hd, hbol]
     conv => lhs; unfold dotl
     rw [if_neg]
     intro z
     rw [Bool.and_eq_true] at z
     exact h1 (by unfold hit1; rw [z.1, z.2, decide_eq_true h2]; rfl)
    cases hf : find1 x k (s + 1) with
    | none =>
     rw [hf] at ih
     dsimp only at ih ⊢
     rw [hc, ih, ← hd]
    | some p =>
     obtain ⟨a, b⟩ := p
     rw [hf] at ih
     dsimp only at ih ⊢
     (refine x0_4 (ih) ?_; try clear ih; intro q1 q2 q3 e)
     refine ⟨Nat.le_of_succ_le q1, q2, q3, ?_⟩
     rw [hc, e, hd, n3 q1, List.take_succ_cons]
     rfl
   ·rw [if_neg h2]
    dsimp only
    rw [List.drop_eq_nil_iff.mpr (by simpa using h2)]
    cases bol x s <;> rfl
theorem sub_dot (x : PySem.Str) : ∀ (k dn : Nat), dn ≤ x.cps.size → x.cps.size + 1 - dn ≤ k → (cat (subGo (find1' x.cps) x dotsS k dn)).cps.toList = dotl (bol x.cps dn) (x.cps.toList.drop dn) := by
 intro k
 induction k with
 | zero =>
  intro dn h hk
  exact n0 h hk
 | succ k ih =>
  intro dn h hk
  unfold subGo
  have fin : dotl (bol x.cps dn) (x.cps.toList.drop dn) = x.cps.toList.drop dn → (cat (if dn < x.cps.size then [⟨x.cps.extract dn x.cps.size⟩] else [])).cps.toList = dotl (bol x.cps dn) (x.cps.toList.drop dn) := fun e => by
   rw [e]
   by_cases q : dn < x.cps.size
   ·rw [if_pos q, zaD, zbR, zb4, List.take_of_length_le (by simp)]
    simp
   ·rw [if_neg q, zb4, List.drop_eq_nil_iff.mpr (by simpa using q)]
  by_cases hlt : dn < x.cps.size
  ·have hf : find1' x.cps dn = find1 x.cps (x.cps.size - dn + 1) dn := by unfold find1'; rw [if_pos hlt]
   have sp := zfy x.cps (x.cps.size - dn + 1) dn h (Nat.le_of_eq (Nat.succ_sub h))
   rw [hf]
   cases hq : find1 x.cps (x.cps.size - dn + 1) dn with
   | none =>
    rw [hq] at sp
    exact fin sp
   | some p =>
    obtain ⟨t, b⟩ := p
    rw [hq] at sp
    (refine x0_4 (sp) ?_; try clear sp; intro a b' eqX2 e; subst eqX2)
    dsimp only
    have ih := ih (t + 1) b' (n2 hk (Nat.lt_succ_of_le a))
    rw [e]
    by_cases q : dn < t
    ·rw [if_pos q]
     show (cat (⟨x.cps.extract dn t⟩ :: dotsS :: _)).cps.toList = _
     rw [zaD, zaD, ih, zdE, zbR]
     rfl
    ·rw [if_neg q]
     have : t = dn := Nat.le_antisymm (Nat.le_of_not_lt q) a
     subst this
     show (cat (dotsS :: _)).cps.toList = _
     rw [zaD, ih, zdE]
     simp
  ·have hf : find1' x.cps dn = none := by unfold find1'; rw [if_neg hlt]
   rw [hf]
   refine fin ?_
   rw [List.drop_eq_nil_iff.mpr (by simpa using hlt)]
   cases bol x.cps dn <;> rfl
theorem zgt (find : Nat → Option (Nat × Nat)) (x rp : PySem.Str) : ∀ (k dn : Nat), (subGo find x rp k dn).length ≤ 2 * k := by
 intro k
 induction k with
 | zero =>
  intro _
  exact Nat.zero_le _
 | succ k ih =>
  intro dn
  unfold subGo
  split
  ·rename_i a b _
   have := ih b
   split <;> simp <;> ktn_no "o4"
  ·split <;> simp <;> ktn_no "o4"
theorem zgp (find : Nat → Option (Nat × Nat)) (x rp : PySem.Str) {N : Nat} (h1 : x.length ≤ N) (h2 : rp.length ≤ N) : ∀ (k dn : Nat), ∀ y ∈ subGo find x rp k dn, y.length ≤ N := by
 intro k
 induction k with
 | zero =>
  intro _ y h
  cases h
 | succ k ih =>
  intro dn y h
  have he : ∀ a b, ((⟨x.cps.extract a b⟩ : PySem.Str).length) ≤ N := fun a b => by
   show (x.cps.extract a b).size ≤ N
   have : x.length = x.cps.size := rfl
   simp; ktn_no "o4"
  unfold subGo at h
  split at h
  ·rename_i a b _
   rcases List.mem_append.mp h with h | h
   ·split at h
    ·simp at h; rw [h]; exact he _ _
    ·cases h
   ·rcases List.mem_cons.mp h with rfl | h
    ·exact h2
    ·exact ih b y h
  ·split at h
   ·simp at h; rw [h]; exact he _ _
   ·cases h
theorem zeX : ∀ (l : List Nat) (b : Bool), (crlS b l).length ≤ 2 * l.length := by
 intro l
 induction l with
 | nil =>
  intro b
  cases b <;> exact Nat.le_refl _
 | cons c r ih =>
  intro b
  have h1 := ih false
  have h2 := ih true
  unfold crlS
  split
  ·split <;> simp <;> ktn_no "o4"
  ·split <;> simp <;> ktn_no "o4"
theorem ze9 {x : PySem.Str} (h : x.length ≤ 1000) : QOk x ∧ quoteF x = quoteZ x := by
 have j1 : quote1 x = ⟨(crlS false x.cps.toList).toArray⟩ := by
  unfold quote1
  rw [show Txt.join ⟨#[]⟩ (subGo (find2 x.cps) x crlfS (x.cps.size + 1) 0) = Str.join ⟨#[]⟩ (subGo (find2 x.cps) x crlfS (x.cps.size + 1) 0) from StrLaws.glued_eq_join _ _, zaq]
  refine zar ?_
  rw [sub_crl x (x.cps.size + 1) 0 (Nat.zero_le _) (Nat.le_refl _)]
  simp
 have hl1 : (quote1 x).length ≤ 2000 := by
  rw [j1]
  show (crlS false x.cps.toList).toArray.size ≤ 2000
  have := zeX x.cps.toList false
  have e : x.length = x.cps.size := rfl
  simp at this ⊢
  ktn_no "o4"
 have j2 : quote2 (quote1 x) = quoteZ x := by
  unfold quote2
  rw [show Txt.join ⟨#[]⟩ (subGo (find1' (quote1 x).cps) (quote1 x) dotsS ((quote1 x).cps.size + 1) 0) = Str.join ⟨#[]⟩ (subGo (find1' (quote1 x).cps) (quote1 x) dotsS ((quote1 x).cps.size + 1) 0) from StrLaws.glued_eq_join _ _, zaq]
  refine zar ?_
  rw [sub_dot (quote1 x) ((quote1 x).cps.size + 1) 0 (Nat.zero_le _) (Nat.le_refl _), j1]
  simp [quoteZ, bol]
 have jok : ∀ (find : Nat → Option (Nat × Nat)) (y rp : PySem.Str), y.length ≤ 2000 → rp.length ≤ 2000 → JoinOk ⟨#[]⟩ (subGo find y rp (y.cps.size + 1) 0) = true := fun find y rp hy hr => by
  unfold JoinOk
  rw [StrLaws.joinFits (B := 2000) (fun z hz => zgp find y rp hy hr _ _ z hz) (by
   have := zgt find y rp (y.cps.size + 1) 0
   have e : y.length = y.cps.size := rfl
   have e2 : (⟨#[]⟩ : PySem.Str).length = 0 := rfl
   rw [e2]; ktn_no "o4")]
  rfl
 exact ⟨⟨by ktn_no "o4", jok _ _ _ (by ktn_no "om") (by decide), by ktn_no "o4", jok _ _ _ hl1 (by decide)⟩, j2⟩
section
open Builtin Builtin.Str
section
variable {w : World} {A : Around} {E : Value → Shared → Prop} {h : Heap} {g : Array GenState} {d : Drawn} {tk : Nat} {os : OsState} {x y : PySem.Str} {t u : Tok} {Q : Value → Shared → Prop}
theorem zhC (x y : PySem.Str) : (Txt.split x y).length ≤ x.length + 2 := by
 unfold Txt.split
 split
 ·simp
 ·split
  ·simp
  ·rw [length_partsBetween]
   have := StrLaws.occ_length_le_len x y 0 x.length (x.length + 1)
   ktn_no "o4"
theorem zdy (hy : (y.length == 0) = false) (hx : x.length ≤ 100000)
  (q : ∀ l tk', l.map (·.1) = Txt.split x y → Q (.ref h.objs.size) ⟨h.push ⟨.type "list", none, .seq (strValues l).toArray 0, #[]⟩, g, d, tk', os⟩) :
  wpAny (M w) A (call (.builtin "str.split") [.str x t, .str y u]) Q E ⟨h, g, d, tk, os⟩ := by
 have hsz : x.length ≤ sizeLine := Nat.le_trans hx (by decide)
 cases h1 : (decide (x.length < y.length) || decide (strKind x < strKind y))
 ·cases hf : (occurrences x y 0 x.length (x.length + 1)).isEmpty
  ·refine call_meets F.slot_str_split (typeIs_str _ _ _) F.entry_str_split (F.args_str_split_2 _ _) (meets_str_split_sep x y t u h1 hy hf hsz ?_) ?_
   ·rw [length_partsBetween]
    have := StrLaws.occ_length_le_len x y 0 x.length (x.length + 1)
    exact Nat.le_trans (show _ ≤ 100002 by ktn_no "o4") (by decide)
   rw [strsFrom_eq]
   exact q (numbered tk _) _ ((numbered_texts _ _).trans ((if_neg (ne_true_of_eq_false h1)).trans (if_neg (ne_true_of_eq_false hf))).symm)
  ·exact call_meets F.slot_str_split (typeIs_str _ _ _) F.entry_str_split (F.args_str_split_2 _ _) (meets_str_split_not_found x y t u h1 hy hf)
    (q [(x, t)] _ ((if_neg (ne_true_of_eq_false h1)).trans (if_pos hf)).symm)
 ·exact call_meets F.slot_str_split (typeIs_str _ _ _) F.entry_str_split (F.args_str_split_2 _ _) (meets_str_split_cannot_occur x y t u h1)
   (q [(x, t)] _ (if_pos h1).symm)
end
end
theorem isL {h : Heap} {x : Addr} {vs : List Value} {k : Nat} (e : h.get? x = some (lsO vs k)) : h.IsList x vs.toArray := ⟨_, e, rfl, _, rfl⟩
theorem noD {h : Heap} {x : Addr} {vs : List Value} {k : Nat} (e : h.get? x = some (lsO vs k)) : h.NoDictAt (.ref x) := by
 unfold Heap.NoDictAt; exact ⟨_, e, rfl⟩
theorem zaE : ∀ l : List (Int × Tok), IntsAre (inV l) (l.map (·.1))
 | [] => .nil
 | (k, t) :: l => .cons k t (zaE l)
theorem mulOk (x : PySem.Str) (n : Nat) (hx : x.length ≤ 100) (hn : n ≤ 1000) : MulOk x n := by
 refine ⟨by simp; ktn_no "o4", fun h1 _ => ?_, fun _ _ => ?_⟩
 ·have h2 : (1 : Int) ≤ n := Int.not_lt.mp h1
  have : (1000 : Int) ≤ (2 ^ 63 - 1) / (n : Int) := by
   refine Int.le_ediv_of_mul_le (Int.lt_of_lt_of_le (by decide) h2) ?_
   exact Int.le_trans (Int.mul_le_mul_of_nonneg_left (Int.ofNat_le.mpr hn) (by decide)) (by decide)
  exact Int.not_lt.mpr (Int.le_trans (Int.le_trans (Int.ofNat_le.mpr hx) (by decide)) this)
 ·unfold Builtin.Str.tooLong
  rw [Int.toNat_natCast]
  have : x.length * n ≤ 100 * 1000 := Nat.mul_le_mul hx hn
  have hz : (100000 : Nat) ≤ sizeLine := by decide
  exact decide_eq_false (Nat.not_lt_of_le (Nat.le_trans this hz))
theorem za1 (x : PySem.Str) (n : Nat) : (Txt.mul x n).length ≤ x.length * n := by
 unfold Txt.mul
 split
 ·exact Nat.zero_le _
 ·rename_i h1
  split
  ·exact Nat.le_mul_of_pos_right _ (by ktn_no "om")
  ·show ((List.replicate ((n : Int).toNat) x.cps).foldl (· ++ ·) #[]).size ≤ _
   rw [Int.toNat_natCast]
   have key : ∀ (k : Nat) (a : Array Nat), ((List.replicate k x.cps).foldl (· ++ ·) a).size = a.size + x.length * k := fun k => by
    induction k with
    | zero => intro a; simp
    | succ k ih => intro a; rw [List.replicate_succ, List.foldl_cons, ih, Array.size_append, Nat.mul_succ]; show a.size + x.length + _ = _; ktn_no "o4"
   rw [key]; simp
section
variable {w : World} {A : Around} {E : Value → Shared → Prop} {s : Shared} {x : PySem.Str} {t u : Tok} {Q : Value → Shared → Prop}
theorem zdO {n : Nat} (hx : x.length ≤ 100) (hn : n ≤ 1000) (h : ∀ t' k, Q (.str (Txt.mul x n) t') { s with toks := k }) : wpAny (M w) A (binaryOp .Mult (.str x t) (.int n u)) Q E s :=
 SB.mul (mulOk x n hx hn) h
end
theorem zbW : ∀ (ls : List Value) (f : Nat → Int), (∀ j v, ls[j]? = some v → ∃ t, v = Value.int (f j) t) → ∃ y, ls = inV y ∧ y.map (·.1) = (List.range ls.length).map f
 | [], f, _ => ⟨[], rfl, rfl⟩
 | v :: ls, f, h => by
  obtain ⟨t, rfl⟩ := h 0 v rfl
  obtain ⟨y, hy, he⟩ := zbW ls (fun j => f (j + 1)) fun j v e => h (j + 1) v (by simpa using e)
  refine ⟨(f 0, t) :: y, by rw [hy]; rfl, ?_⟩
  rw [List.map_cons, he, List.length_cons, List.range_succ_eq_map, List.map_cons, List.map_map]
  rfl
section
variable {w : World} {A : Around} {E : Value → Shared → Prop} {env : Env}
inductive SliceAt (w : World) (vl vu : Value) (Q : Value → Shared → Prop) : Value → Shared → Prop
 | mk {B : Heap} {L : Addr} {m : PySem.Str → Option Value} {cl : List (PySem.Str × Addr)} {cm : PySem.Str → Option Value} {news : List (Addr × Obj)} {s₀ : Shared} {h : Heap} {g : Array GenState} {d : Drawn} {tk : Nat} {os : OsState} {x : Addr} {vs : List Value} {lo hi : Option Int}
  (F : Fm w B L cl s₀ m cm news ⟨h, g, d, tk, os⟩) (ha : h.IsList x vs.toArray) (hz : vs.length ≤ 100000) (p1 : IsPart vl lo) (p2 : IsPart vu hi)
  (q : ∀ y h' k, Fm w B L cl s₀ m cm ((y, lsO (slicePick vs.toArray lo hi none).toList k) :: news) ⟨h', g, d, tk, os⟩ → Q (.ref y) ⟨h', g, d, tk, os⟩) : SliceAt w vl vu Q (.ref x) ⟨h, g, d, tk, os⟩
theorem zef {value : Expr} {lower upper : Option Expr} {p pos : Pos} {Q : Value → Shared → Prop} {s : Shared}
  (q : wpAny (M w) A (eval value env) (fun o s₁ => wpAny (M w) A (evalPart lower env) (fun vl s₂ => wpAny (M w) A (evalPart upper env) (fun vu s₃ => SliceAt w vl vu Q o s₃) E s₂) E s₁) E s)
  (ht : ∀ o r, letTemporaryGo value o r = pure () := by intro _ _; rfl) : wpAny (M w) A (eval (.Subscript value (.Slice lower upper none p) pos) env) Q E s := by
 refine wpAny_Subscript_list_slice (wpAny_mono q (fun o s₁ h₁ => wpAny_mono h₁ (fun vl s₂ h₂ => wpAny_mono h₂ (fun vu s₃ h₃ => ?_) fun _ _ z => z) fun _ _ z => z) fun _ _ z => z) ht
 cases h₃ with
 | @mk B L m cl cm news s₀ h₃ g₃ d₃ k₃ o₃ x vs lo hi F hl hsz p1 p2 q =>
 refine ⟨x, vs.toArray, lo, hi, rfl, hl, Nat.le_trans (by simpa using hsz) (show (100000 : Nat) ≤ sizeLine by decide), p1, p2, ?_⟩
 have F₁ := F.push1 (g := g₃) (d := d₃) (tk := k₃) ⟨.type "slice", none, .fields #[vl, vu, .none], #[]⟩
 have F₂ := (F₁.push1 (g := g₃) (d := d₃) (tk := k₃) ⟨.type "list", none, .seq (slicePick vs.toArray lo hi none), #[]⟩).erase 1
 rw [show (h₃.push ⟨.type "slice", none, .fields #[vl, vu, .none], #[]⟩).objs.size = h₃.objs.size + 1 from Heap.size_push _ _] at F₂
 exact q _ _ _ F₂
end
section
variable {w : World} {B : Heap} {L : Addr} {m : PySem.Str → Option Value} {cl : List (PySem.Str × Addr)} {cm : PySem.Str → Option Value} {news : List (Addr × Obj)} {s₀ : Shared} {A : Around} {E : Value → Shared → Prop}
 {h : Heap} {g : Array GenState} {d d₀ : Drawn} {tk tk₀ : Nat} {os : OsState} {env : Env} {x : PySem.Str} {v : Value} {c : Addr}
theorem st_CO {Q : Unit → Shared → Prop} (F : Fm w B L cl s₀ m cm news ⟨h, g, d₀, tk₀, os⟩) (HC : OwnC B cl) (hk : env.scope.kind = .function) (hx : env.kindOf x = some .cell) (hL : env.cells = cl) (hc : (cl.lookup x).isSome = true)
  (q : ∀ h', Fm w B L cl s₀ m (upd cm x v) news ⟨h', g, d, tk, os⟩ → Q () ⟨h', g, d, tk, os⟩) : wpAny (M w) A (storeName env x v) Q E ⟨h, g, d, tk, os⟩ :=
 let ⟨_, hc⟩ := Option.isSome_iff_exists.mp hc; st_C F hk hx hL hc (HC _ _ hc).1 (HC _ _ hc).2 q
end
local macro_rules | `(tactic| ktn_no "x2") => `(tactic| (with_reducible refine st_CO (by assumption) (by assumption) ?a1 ?a2 ?a3 ?a4 (fun _ _ => ?_); (case a1 => kernel_rfl); (case a2 => kernel_rfl!); (case a3 => kernel_rfl); (case a4 => kernel_rfl)))
noncomputable abbrev envLaw (L : Addr) : Env := callEnvC fd_law L a_law
noncomputable abbrev lawSt (i : Nat) : Stmt := body_law.getD i default
theorem inV_of {vs : List Value} {ns : List Int} (h : IntsAre vs ns) : ∃ l : List (Int × Tok), vs = inV l ∧ l.map (·.1) = ns := by
 induction h with
 | nil => exact ⟨[], rfl, rfl⟩
 | cons k t h ih =>
  obtain ⟨l, a, b⟩ := ih
  exact ⟨(k, t) :: l, congrArg _ a, congrArg _ b⟩
section
variable {w : World} {B : Heap} {L : Addr} {m cm : PySem.Str → Option Value} {rest : List (Addr × Obj)} {s₀ s : Shared} {A : Around} {n : Nat} {Q : Flow → Shared → Prop}
theorem law_0 {sa : Addr} {vs : List Value} {ns : List Int} (R : Room (n + 20) A) (F : Fm w B L (envLaw L).cells s₀ m cm rest s) (HC : OwnC B (envLaw L).cells) (hB : B.IsList sa vs.toArray) (hI : IntsAre vs ns) (hsz : vs.length ≤ 100) (m1 : m "script" = some (.ref sa))
  (h : ∀ D cs k s', cs.length ≤ 12 → (∀ c ∈ cs, 0 ≤ c.1 ∧ c.1 < 1000000) → Fm w B L (envLaw L).cells s₀ m (upd cm "cells" (.ref D)) ((D, lsO (inV cs) k) :: rest) s' → Q .next s') :
  wpAny (M w) A (exec (lawSt 0) (envLaw L)) Q NoE s := by
 obtain ⟨h₁, g₁, d₁, k₁, o₁⟩ := s
 ktn_no "ast"
 ktn_no "z"
 refine zaM (B := B) (L := L) (m := m) (cm := cm) (s₀ := s₀) (by kernel_rfl) (by rfl) (by kernel_rfl) (by kernel_rfl) (by kernel_rfl) (fun _ => rfl) ?_
 refine zef ?_
 ktn_no "z"
 refine evalPart_none_step ?_
 refine evalPart_some_step ?_
 ktn_no "z"
 (refine x1_2 (inV_of hI) ?_; intro l eqX1 hl; subst eqX1)
 refine .mk (x := sa) (vs := inV l) (F.toks _) ?_ (Nat.le_trans hsz (by decide)) .none (.int (12 : Nat) _) fun y h₂ ky F₂ => ?_
 ·(refine x1_2 (hB) ?_; try clear hB; intro o e r)
  exact ⟨o, F.keep _ _ e, r⟩
 rw [slicePick_upto'] at F₂
 have e0 : ((inV l).toArray.toList.take 12).toArray.toList = inV (l.take 12) := by simp [inV]
 rw [e0] at F₂
 clear F
 dsimp only
 refine zak F₂ (i := 0) rfl fun I h₄ F₃ => ?_
 clear F₂
 refine ⟨_, F₃, fun D C s₃ s₄ _ F₄ G => ?_⟩
 have G₁ := G.perm (news' := (I, itO y 0) :: (D, lsO [] 0) :: (y, lsO (inV (l.take 12)) ky) :: rest) (by ktn_no "perm_tac")
 refine zas (zag I y (inV (l.take 12))) (zaA I y) rfl rfl R.handled (by simp; ktn_no "o4") (fun j v => ∃ t, v = .int (((l.take 12).getD j default).1.fmod 1000000) t) rfl G₁ (fun m l k s o F => ⟨_, _, F.at 2 rfl, rfl⟩) (fun j v m0 l1 k0 o0 s0 K hj hv G₂ q => ?_) (fun m₅ ls kd s' hl' hv G₃ => ?_)
 ·obtain ⟨h, g, d, tk, os⟩ := s0
  have hlt : j < (l.take 12).length := by simpa using hj
  have hv' : v = .int (l.take 12)[j].1 (l.take 12)[j].2 := by
   simp only [inV, List.getElem?_map, List.getElem?_eq_getElem hlt] at hv
   exact (Option.some.inj hv).symm
  subst hv'
  refine wpAny_pure (wpAny_assign_Name ?_)
  refine st_L G₂ (by kernel_rfl) (by kernel_rfl!) (by kernel_rfl) fun h₆ G₃ => ?_
  clear G₁ G₂ G F₄ F₃
  ktn_no "z"
  refine call_int_int ?_
  ktn_no "z"
  refine pow_int_small (by decide) (by decide) (by decide) ?_
  refine mod_int (by decide) ?_
  have hy : ∀ t, ∃ t', Value.int ((l.take 12)[j].1.fmod (10 ^ (6 : Int).toNat)) t = Value.int (((l.take 12).getD j default).1.fmod 1000000) t' := fun t => ⟨t, by
   rw [List.getD_eq_getElem?_getD, List.getElem?_eq_getElem hlt]; rfl⟩
  exact q _ _ _ (hy _) (G₃.toks _)
 ·refine ⟨_, _, _, _, G₃, fun s'' F₇ => ?_⟩
  obtain ⟨h₇, g₇, d₇, k₇, o₇⟩ := s''
  (refine x1_2 (zbW ls _ hv) ?_; intro yl eqX1 hy; subst eqX1)
  clear G G₁ G₃ F₄ F₃
  ktn_no "z"
  rename_i h₈ F₈
  refine h D yl kd _ ?_ ?_ (F₈.sub (((List.sublist_cons_self _ _)).cons₂ _))
  ·have := congrArg List.length hy
   simp at this hl'
   ktn_no "o4"
  ·intro c hc
   have : c.1 ∈ yl.map (·.1) := List.mem_map_of_mem hc
   rw [hy] at this
   (refine x1_2 (List.mem_map.mp this) ?_; intro j _ hj)
   rw [← hj]
   rw [Int.fmod_eq_emod_of_nonneg _ (by decide)]
   exact ⟨Int.emod_nonneg _ (by decide), Int.emod_lt_of_pos _ (by decide)⟩
end
noncomputable def LiO (l : Addr) (i : Nat) (o : Obj) : Prop := o.cls = .type "list_iterator" ∧ o.data = .fields #[.ref l, .int i 0]
section
variable {w : World} {B : Heap} {L : Addr} {m : PySem.Str → Option Value} {cl : List (PySem.Str × Addr)} {cm : PySem.Str → Option Value} {news : List (Addr × Obj)} {s₀ s : Shared} {A : Around}
 {h : Heap} {g : Array GenState} {d d₀ : Drawn} {tk tk₀ : Nat} {os : OsState}
theorem Fm.freshC {a : Addr} (F : Fm w B L cl s₀ m cm news s) (ha : s.heap.objs.size ≤ a) : a ≠ L ∧ B.get? a = none ∧ szTop ≤ a ∧ a ∉ news.map (·.1) ∧ ∀ n c, cl.lookup n = some c → c ≠ a := by
 refine ⟨fun e => absurd F.ns.lt (by rw [← e]; exact Nat.not_lt.mpr ha), ?_, Nat.le_trans (Nat.le_trans F.szL (Nat.le_of_lt F.ns.lt)) ha, fun q => ?_, fun n c e q => ?_⟩
 ·cases q : B.get? a with
  | none => rfl
  | some o => exact absurd (Heap.lt_size (F.keep _ _ q)) (Nat.not_lt.mpr ha)
 ·(refine x1_2 (List.mem_map.mp q) ?_; intro p hp e)
  exact absurd (Heap.lt_size (F.nw p hp).1) (by rw [e]; exact Nat.not_lt.mpr ha)
 ·exact absurd (F.ce n c e).lt (by rw [q]; exact Nat.not_lt.mpr ha)
theorem Fm.addC {a : Addr} {o : Obj} (F : Fm w B L cl s₀ m cm news s) (hx : s.heap.get? a = some o) (h1 : a ≠ L) (h2 : B.get? a = none) (h3 : szTop ≤ a) (h4 : a ∉ news.map (·.1)) (h5 : ∀ n c, cl.lookup n = some c → c ≠ a) : Fm w B L cl s₀ m cm ((a, o) :: news) s :=
 { F with
  nw := fun p hp => by
   rcases List.mem_cons.mp hp with rfl | hp
   ·exact ⟨hx, h1, h2, h3⟩
   ·exact F.nw p hp
  nd := List.nodup_cons.mpr ⟨h4, F.nd⟩
  cd := fun n c e => by
   (refine x0_3 (F.cd n c e) ?_; intro a' b c')
   refine ⟨a', fun q => ?_, c'⟩
   rcases List.mem_cons.mp q with q | q
   ·exact h5 n c e q
   ·exact b q }
theorem zfh {l : Addr} {i : Nat} {vs : List Value} {k : Nat} {Q : Value → Shared → Prop} (F : Fm w B L cl s₀ m cm news ⟨h, g, d₀, tk₀, os⟩) (hi : news[i]? = some (l, lsO vs k))
  (q : ∀ E S h' oS, LiO l 0 oS → Fm w B L cl s₀ m cm ((E, enumO S ((0 : Nat) : Int) .none) :: (S, oS) :: news) ⟨h', g, d, tk, os⟩ → Q (.ref E) ⟨h', g, d, tk, os⟩) :
  wpAny (M w) A (call (.type "enumerate") [.ref l]) Q NoE ⟨h, g, d, tk, os⟩ := by
 refine call_enumerate_list (s := ⟨h, g, d, tk, os⟩) (isL (F.at i hi)) fun h' hE hS hz hk => ?_
 (refine x1_2 (hS) ?_; try clear hS; intro oS hS1 hS2)
 have F₁ := Fm.keepAll (d := d) (tk := tk) F hk
 (refine x0_5 (Fm.freshC (a := h.objs.size) F (Nat.le_refl _)) ?_; intro a1 a2 a3 a4 a5)
 (refine x0_5 (Fm.freshC (a := h.objs.size + 1) F (Nat.le_succ _)) ?_; intro b1 b2 b3 b4 b5)
 have F₂ := Fm.addC F₁ hS1 a1 a2 a3 a4 a5
 refine q _ _ h' oS hS2 (Fm.addC F₂ hE b1 b2 b3 ?_ b5)
 rw [List.map_cons, List.mem_cons, not_or]
 exact ⟨Nat.succ_ne_self _, b4⟩
theorem ze7 {E S l : Addr} {oS : Obj} {vs : List Value} {p : Nat} {v old : Value} {Q : Option Value → Shared → Prop} {Er : Value → Shared → Prop} (F : Fm w B L cl s₀ m cm ((E, enumO S p old) :: (S, oS) :: news) ⟨h, g, d₀, tk₀, os⟩) (ho : LiO l p oS) (hl : h.IsList l vs.toArray) (hv : vs[p]? = some v)
  (q : ∀ T h' tk' t1 oS', LiO l (p + 1) oS' → Fm w B L cl s₀ m cm ((T, tupO [.int p t1, v]) :: (E, enumP S (p + 1 : Nat) v T) :: (S, oS') :: news) ⟨h', g, d, tk', os⟩ → Q (some (.ref T)) ⟨h', g, d, tk', os⟩) :
  wpAny (M w) A (pyNext (.ref E)) Q Er ⟨h, g, d, tk, os⟩ := by
 have hnd := F.nd
 simp only [List.map_cons, List.nodup_cons, List.mem_cons, not_or] at hnd
 refine wpAny_pyNext_enum_item (s := ⟨h, g, d, tk, os⟩) (F.at 0 rfl) ⟨oS, F.at 1 rfl, ho⟩ hl (by simpa using hv) hnd.1.1 fun h' hE' hS' hT hsz hk => ?_
 (refine x1_2 (hS') ?_; try clear hS'; intro oS' hS' hd')
 have F₂ := Fm.set2 (h' := h') (d := d) (tk := tk + 1) F (fun b o h1 h2 e => hk b o h1 h2 e) hE' hS'
 (refine x0_5 (Fm.freshC (a := h.objs.size) F (Nat.le_refl _)) ?_; intro a1 a2 a3 a4 a5)
 exact q _ h' (tk + 1) tk oS' hd' (Fm.addC F₂ hT a1 a2 a3 a4 a5)
theorem zfW {E S l : Addr} {oS : Obj} {vs : List Value} {p : Nat} {old : Value} {Q : Option Value → Shared → Prop} {Er : Value → Shared → Prop} (F : Fm w B L cl s₀ m cm ((E, enumO S p old) :: (S, oS) :: news) ⟨h, g, d₀, tk₀, os⟩) (hh : A.handled = none) (ho : LiO l p oS) (hl : h.IsList l vs.toArray) (hv : vs.length = p)
  (q : ∀ h', Fm w B L cl s₀ m cm ((E, enumO S p old) :: news) ⟨h', g, d, tk, os⟩ → Q none ⟨h', g, d, tk, os⟩) :
  wpAny (M w) A (pyNext (.ref E)) Q Er ⟨h, g, d, tk, os⟩ := by
 refine wpAny_pyNext_enum_end (s := ⟨h, g, d, tk, os⟩) hh (F.at 0 rfl) ⟨oS, F.at 1 rfl, ho⟩ hl (by simp [hv]) fun h' he' => ?_
 have F₁ := F.perm (news' := (S, oS) :: (E, enumO S p old) :: news) (by ktn_no "perm_tac")
 exact q h' (Fm.lose (s := ⟨h, g, d, tk, os⟩) F₁.withD fun b ob hb e => he' b ob hb e)
end
section
variable {w : World} {B : Heap} {C : Addr} {cl : List (PySem.Str × Addr)} {s₀ : Shared} {A : Around} {n : Nat} {it : Value}
 {elt target iter : Expr} {ifs : List Expr} {gens : List Comprehension} {scope : Scope} {pos : Pos} {acc : Value} {d : Nat} {env : Env} {Q : Shared → Prop}
 {Inv : Nat → (PySem.Str → Option Value) → (PySem.Str → Option Value) → List (Addr × Obj) → Prop} {Mid : Nat → Value → (PySem.Str → Option Value) → (PySem.Str → Option Value) → List (Addr × Obj) → Prop} {End : (PySem.Str → Option Value) → (PySem.Str → Option Value) → List (Addr × Obj) → Prop}
theorem zgX (hg : gens[d]? = some ⟨target, iter, ifs, 0⟩) (hn : gens[d + 1]? = none)
  (next : ∀ i m cm news s (Q' : Option Value → Shared → Prop), i < n → Inv i m cm news → Fm w B C cl s₀ m cm news s → (∀ v news' s', Mid i v m cm news' → Fm w B C cl s₀ m cm news' s' → Q' (some v) s') → wpAny (M w) A (pyNext it) Q' NoE s)
  (fin : ∀ m cm news s (Q' : Option Value → Shared → Prop), Inv n m cm news → Fm w B C cl s₀ m cm news s → (∀ news' s', End m cm news' → Fm w B C cl s₀ m cm news' s' → Q' none s') → wpAny (M w) A (pyNext it) Q' NoE s)
  (body : ∀ i v m cm news s (K : Shared → Prop), i < n → Mid i v m cm news → Fm w B C cl s₀ m cm news s →
   (∀ m' cm' news' s', Inv (i + 1) m' cm' news' → Fm w B C cl s₀ m' cm' news' s' → K s') →
   wpAny (M w) A (letOwnedTupleGo target it v) (fun _ s₁' => wpAny (M w) A (assign target env v) (fun _ s₂ => wpAny (M w) A (ifsOk env ifs) (fun ok s₃ =>
     if ok = true then wpAny (M w) A (eval elt env) (fun y s₄ => wpAny (M w) A (call (.builtin "list.append") [acc, y]) (fun _ s₅ => K s₅) NoE s₄) NoE s₃
     else K s₃) NoE s₂) NoE s₁') NoE s) :
  ∀ (k i : Nat) (m cm : PySem.Str → Option Value) (news : List (Addr × Obj)) (s : Shared), i + k = n → Inv i m cm news → Fm w B C cl s₀ m cm news s →
   (∀ m' cm' news' s', End m' cm' news' → Fm w B C cl s₀ m' cm' news' s' → Q s') → CompC w A (.ListComp elt gens scope pos) d it acc env Q s := by
 intro k
 induction k with
 | zero =>
  intro i m cm news s hi hv F hq
  refine zaL hg hn (fin m cm news s _ (by rw [show n = i by ktn_no "o4"]; exact hv) F fun news' s' he F' => hq _ _ _ _ he F')
 | succ k ih =>
  intro i m cm news s hi hv F hq
  refine zaL hg hn (next i m cm news s _ (by ktn_no "om") hv F fun v news' s' hm F' => ?_)
  refine body i v m cm news' s' _ (by ktn_no "om") hm F' fun m'' cm'' news'' s'' hv'' F'' => ?_
  exact ih (i + 1) m'' cm'' news'' s'' (by ktn_no "om") hv'' F'' hq
theorem zgu (hg : gens[d]? = some ⟨target, iter, ifs, 0⟩) (hn : gens[d + 1]? = none)
  (self : ∀ (s : Shared) (Q' : Value → Shared → Prop), (∃ m cm news, Inv 0 m cm news ∧ Fm w B C cl s₀ m cm news s) → Q' it s → wpAny (M w) A (pyIter it) Q' NoE s)
  (next : ∀ i m cm news s (Q' : Option Value → Shared → Prop), i < n → Inv i m cm news → Fm w B C cl s₀ m cm news s → (∀ v news' s', Mid i v m cm news' → Fm w B C cl s₀ m cm news' s' → Q' (some v) s') → wpAny (M w) A (pyNext it) Q' NoE s)
  (fin : ∀ m cm news s (Q' : Option Value → Shared → Prop), Inv n m cm news → Fm w B C cl s₀ m cm news s → (∀ news' s', End m cm news' → Fm w B C cl s₀ m cm news' s' → Q' none s') → wpAny (M w) A (pyNext it) Q' NoE s)
  (body : ∀ i v m cm news s (K : Shared → Prop), i < n → Mid i v m cm news → Fm w B C cl s₀ m cm news s →
   (∀ m' cm' news' s', Inv (i + 1) m' cm' news' → Fm w B C cl s₀ m' cm' news' s' → K s') →
   wpAny (M w) A (letOwnedTupleGo target it v) (fun _ s₁' => wpAny (M w) A (assign target env v) (fun _ s₂ => wpAny (M w) A (ifsOk env ifs) (fun ok s₃ =>
     if ok = true then wpAny (M w) A (eval elt env) (fun y s₄ => wpAny (M w) A (call (.builtin "list.append") [acc, y]) (fun _ s₅ => K s₅) NoE s₄) NoE s₃
     else K s₃) NoE s₂) NoE s₁') NoE s)
  {m cm : PySem.Str → Option Value} {news : List (Addr × Obj)} {s : Shared} (hv : Inv 0 m cm news) (F : Fm w B C cl s₀ m cm news s)
  (hq : ∀ m' cm' news' s', End m' cm' news' → Fm w B C cl s₀ m' cm' news' s' → Q s') : CompS w A (.ListComp elt gens scope pos) d it acc env Q s := by
 have run := zgX (acc := acc) (scope := scope) (pos := pos) hg hn next fin body n 0 m cm news s (by ktn_no "om") hv F hq
 exact za3 hg run (self s _ ⟨m, cm, news, hv, F⟩ run)
end
theorem zcP (items : Array Value) (lo hi st : Option Int) : ∀ v ∈ (slicePick items lo hi st).toList, v ∈ items.toList := by
 intro v hv
 unfold slicePick at hv
 simp only [List.mem_filterMap, Array.toList_filterMap, List.toList_toArray, List.mem_toArray] at hv
 (refine x1_2 (hv) ?_; try clear hv; intro i _ hi)
 exact List.mem_of_getElem? (by rw [Array.getElem?_toList]; exact hi)
section
variable {w : World} {B : Heap} {L : Addr} {m cm : PySem.Str → Option Value} {cl : List (PySem.Str × Addr)} {news rest : List (Addr × Obj)} {s₀ s : Shared} {A : Around} {n : Nat}
 {h : Heap} {g : Array GenState} {d d₀ : Drawn} {tk tk₀ : Nat} {os : OsState}
theorem zc3 {l : Addr} {xs : List (Int × Tok)} {Q : Value → Shared → Prop} (F : Fm w B L cl s₀ m cm news ⟨h, g, d₀, tk₀, os⟩) (hh : A.handled = none) (hl : h.IsList l (inV xs).toArray)
  (q : ∀ t h' tk', Fm w B L cl s₀ m cm news ⟨h', g, d, tk', os⟩ → Q (.int (xs.map (·.1)).sum t) ⟨h', g, d, tk', os⟩) : wpAny (M w) A (call (.builtin "sum") [.ref l]) Q NoE ⟨h, g, d, tk, os⟩ := by
 have hi := zaE xs
 obtain ⟨ys, hx⟩ := hi.allInts.items
 have hn : numsOf (inV xs).toArray.toList = xs.map (·.1) := by rw [show (inV xs).toArray.toList = inV xs from rfl, hi.numsOf]
 rw [hx] at hl hn
 rw [nums_intItems] at hn
 refine sum_intListG (s := ⟨h, g, d, tk, os⟩) hh hl fun h' tk' t' hk => ?_
 have := q t' h' tk' (Fm.keepAll F hk)
 rw [preSum_eq, List.take_of_length_le (by simp), hn]
 exact this
theorem zbi {E : Value → Shared → Prop} {a sl : Addr} {vs : List Value} {k : Nat} {value slice : Expr} {vl vu vst : Value} {lo hi st : Option Int} {Q : Value → Shared → Prop}
  (F : Fm w B L cl s₀ m cm news ⟨h, g, d₀, tk₀, os⟩) (hl' : h.get? a = some (lsO vs k)) (hs : h.get? sl = some (slO vl vu vst)) (p1 : IsPart vl lo) (p2 : IsPart vu hi) (p3 : IsPart vst st) (h0 : st ≠ some 0) (hsz : vs.length ≤ 100000)
  (q : ∀ y h' k, Fm w B L cl s₀ m cm ((y, lsO (slicePick vs.toArray lo hi st).toList k) :: news) ⟨h', g, d, tk, os⟩ → Q (.ref y) ⟨h', g, d, tk, os⟩)
  (hss : subscripted slice false (.ref a) (.ref sl) = operate [.ref a, .ref sl] (getItem (.ref a) (.ref sl)) := by with_unfolding_all rfl) :
  wpAny (M w) A (subscriptTail value slice (.ref a) (.ref sl)) Q E ⟨h, g, d, tk, os⟩ := by
 have hl := isL hl'
 refine zbP hl.typeIs slot_list_getitem.lookup (fun _ _ _ h => wpAny_letTemporaryGo h) (wpAny_getItem_list_slice hl ⟨_, hs, rfl, rfl⟩ p1 p2 p3 h0 ?_ (Nat.le_trans (by simpa using hsz) (show (100000 : Nat) ≤ sizeLine by decide))) hss
 have F₂ := F.push1 (g := g) (d := d) (tk := tk) ⟨.type "list", none, .seq (slicePick vs.toArray lo hi st), #[]⟩
 exact q _ _ _ F₂
theorem law_1 {Q : Flow → Shared → Prop} {D : Addr} {cs : List (Int × Tok)} {k : Nat} (R : Room (n + 20) A) (F : Fm w B L (envLaw L).cells s₀ m cm rest s) (HC : OwnC B (envLaw L).cells) (hD : (D, lsO (inV cs) k) ∈ rest) (hlen : cs.length ≤ 12) (hcs : ∀ c ∈ cs, 0 ≤ c.1)
  (c1 : cm "cells" = some (.ref D))
  (h : ∀ N ns k' s', ns.length = 6 → (∀ c ∈ ns, 0 ≤ c.1) → Fm w B L (envLaw L).cells s₀ (upd m "numbers" (.ref N)) cm ((N, lsO (inV ns) k') :: rest) s' → Q .next s') :
  wpAny (M w) A (exec (lawSt 1) (envLaw L)) Q NoE s := by
 obtain ⟨h₁, g₁, d₁, k₁, o₁⟩ := s
 ktn_no "ast"
 refine zaw (B := B) (L := L) (m := m) (cm := cm) (s₀ := s₀) (by kernel_rfl) (by kernel_rfl) (by rfl) (by kernel_rfl) (by kernel_rfl) (by kernel_rfl) (fun _ => rfl) (by kernel_rfl) (by kernel_rfl) (by kernel_rfl) ?_
 ktn_no "z"
 refine zap (by simp) ?_
 obtain ⟨bl, hbl, hb0, hbn⟩ : ∃ bl : List (Int × Tok), inV bl = [Value.int 6 k₁, Value.int 12 (k₁ + 1), Value.int 15 (k₁ + 1 + 1), Value.int 23 (k₁ + 1 + 1 + 1), Value.int 1 (k₁ + 1 + 1 + 1 + 1), Value.int 3 (k₁ + 1 + 1 + 1 + 1 + 1)] ∧ bl.length = 6 ∧ ∀ c ∈ bl, 0 ≤ c.1 :=
  ⟨[(6, k₁), (12, k₁ + 1), (15, k₁ + 1 + 1), (23, k₁ + 1 + 1 + 1), (1, k₁ + 1 + 1 + 1 + 1), (3, k₁ + 1 + 1 + 1 + 1 + 1)], rfl, rfl, by simp⟩
 rw [← hbl]
 have F₂ := F.push1 (g := g₁) (d := d₁) (tk := k₁ + 6) (lsO (inV bl) 0)
 clear F
 ktn_no "z"
 refine zfh F₂ (i := 0) rfl fun E S h₃ oS hoS F₃ => ?_
 clear F₂
 refine wpAny_pyIter_enum (F₃.at 0 rfl) ?_
 refine ⟨_, F₃.toks _, fun D' C s₃ s₄ _ F₄ G => ?_⟩
 have G₁ := G.perm (news' := (E, enumO S ((0 : Nat) : Int) .none) :: (S, oS) :: (D', lsO [] 0) :: (h₁.objs.size, lsO (inV bl) 0) :: rest) (by ktn_no "perm_tac")
 refine zgu (n := 6)
  (Inv := fun i m cm' news => cm' = cm ∧ ∃ old oS l kd, news = (E, enumO S (i : Nat) old) :: (S, oS) :: (D', lsO (inV l) kd) :: (h₁.objs.size, lsO (inV bl) 0) :: rest ∧ LiO h₁.objs.size i oS ∧ l.length = i ∧ ∀ c ∈ l, 0 ≤ c.1)
  (Mid := fun i v m cm' news => cm' = cm ∧ ∃ (T : Addr) (oS : Obj) (l : List (Int × Tok)) (kd : Nat) (t1 : Tok) (b : Int × Tok), v = .ref T ∧ 0 ≤ b.1 ∧ news = (T, tupO [.int (i : Nat) t1, .int b.1 b.2]) :: (E, enumP S (i + 1 : Nat) (.int b.1 b.2) T) :: (S, oS) :: (D', lsO (inV l) kd) :: (h₁.objs.size, lsO (inV bl) 0) :: rest ∧ LiO h₁.objs.size (i + 1) oS ∧ l.length = i ∧ ∀ c ∈ l, 0 ≤ c.1)
  (End := fun m cm' news => cm' = cm ∧ ∃ o l kd, news = (E, o) :: (D', lsO (inV l) kd) :: (h₁.objs.size, lsO (inV bl) 0) :: rest ∧ l.length = 6 ∧ ∀ c ∈ l, 0 ≤ c.1)
  rfl rfl (fun s Q' hh q => by rcases hh with ⟨_, _, _, ⟨_, _, _, _, _, e, _⟩, F⟩; subst e; exact wpAny_pyIter_enum (F.at 0 rfl) q)
  (fun i m cm' news s Q' hi hv F q => by
   (refine y4_4 (hv) ?_; try clear hv; intro eqX0 old oS l kd eqX5 hoS hl hp; subst eqX0; subst eqX5)
   obtain ⟨h, g, d, tk, os⟩ := s
   have hbi : (inV bl)[i]? = some (.int (bl[i]'(by ktn_no "om")).1 (bl[i]'(by ktn_no "om")).2) := by simp [List.getElem?_eq_getElem (show i < bl.length by ktn_no "o4")]
   refine ze7 F hoS (isL (F.at 3 rfl)) hbi fun T h' tk' t1 oS' hoS' F' => ?_
   exact q _ _ _ ⟨rfl, T, oS', l, kd, t1, bl[i]'(by ktn_no "om"), rfl, hbn _ (List.getElem_mem _), rfl, hoS', hl, hp⟩ F')
  (fun m cm' news s Q' hv F q => by
   (refine y4_4 (hv) ?_; try clear hv; intro eqX0 old oS l kd eqX5 hoS hl hp; subst eqX0; subst eqX5)
   obtain ⟨h, g, d, tk, os⟩ := s
   refine zfW F R.handled hoS (isL (F.at 3 rfl)) (by simp [hb0]) fun h' F' => ?_
   exact q _ _ ⟨rfl, _, l, kd, rfl, hl, hp⟩ F')
  (fun i v m cm' news s K hi hv F q => by
   (refine y6_6 (hv) ?_; try clear hv; intro eqX0 T oS l kd t1 b eqX7 hb eqX9 hoS hl hp; subst eqX0; subst eqX7; subst eqX9)
   obtain ⟨h, g, d, tk, os⟩ := s
   refine zgz F fun h₅ F₅ => ?_
   refine zao F₅ R.handled (F₅.at 0 rfl) (by kernel_rfl) (by kernel_rfl) (by kernel_rfl) (by kernel_rfl) fun h₆ k₆ F₆ => ?_
   clear F F₅ G G₁ F₃ F₄
   replace F₆ := F₆.drop 1
   dsimp only [List.drop] at F₆
   have hD' := (F₆.nw _ (show (D, lsO (inV cs) k) ∈ _ from .tail _ (.tail _ (.tail _ (.tail _ hD))))).1
   refine wpAny_tests_nil ?_
   (ktn_no "iP"; exact rfl)
   ktn_no "z"
   refine wpAny_Slice ?_
   refine evalPart_some_step ?_
   ktn_no "z"
   refine evalPart_none_step ?_
   refine evalPart_some_step ?_
   ktn_no "z"
   have F₇ := fun t => F₆.push1 (g := g) (d := d) (tk := k₆) (slO (.int (i : Nat) t1) .none (.int 6 t))
   have hslt : h₆.objs.size ≠ D := fun e => absurd (Heap.lt_size hD') (by rw [← e]; exact Nat.lt_irrefl _)
   refine zbi (F₇ _) (Heap.get?_push_of_some _ hD') ((F₇ _).at 0 rfl) (.int _ _) .none (.int _ _) (by simp) (by simp; ktn_no "o4") fun y h₈ ky F₈ => ?_
   (refine x1_2 (inV_of (IntsAre.pick (zaE cs) (some ((i : Nat) : Int)) none (some 6))) ?_; intro xs hxs hxn)
   rw [hxs] at F₈
   have hxp : 0 ≤ (xs.map (·.1)).sum := by
    have hm : ∀ c ∈ xs, 0 ≤ c.1 := fun c hc => by
     have : Value.int c.1 c.2 ∈ inV cs := by
      have := zcP (inV cs).toArray (some ((i : Nat) : Int)) none (some 6) (.int c.1 c.2) (by rw [hxs]; exact List.mem_map_of_mem (f := fun p : Int × Tok => Value.int p.1 p.2) hc)
      simpa using this
     (refine x1_2 (List.mem_map.mp this) ?_; intro c' hc' e)
     have e1 : c'.1 = c.1 := by injection e
     rw [← e1]
     exact hcs _ hc'
    clear hxs hxn F₈
    induction xs with
    | nil => simp
    | cons a xs ih =>
     have h1 := hm a (.head _)
     have h2 := ih fun c hc => hm c (.tail _ hc)
     simp only [List.map_cons, List.sum_cons]
     ktn_no "o4"
   clear F₆ F₇
   ktn_no "z"
   refine zc3 F₈ R.handled (isL (F₈.at 0 rfl)) fun t₉ h₉ k₉ F₉ => ?_
   ktn_no "z"
   have F₁₀ := F₉.drop 2
   dsimp only [List.drop] at F₁₀
   refine app_at 2 F₁₀ rfl (by simp; ktn_no "o4") fun h₁₁ F₁₁ => ?_
   dsimp only [List.set] at F₁₁
   refine q _ _ ((E, enumO S (i + 1 : Nat) _) :: (S, oS) :: (D', lsO (inV (l ++ [(b.1 + (xs.map (·.1)).sum, k₉)])) (kd + 1)) :: (h₁.objs.size, lsO (inV bl) 0) :: rest) _ ⟨rfl, _, _, _, _, rfl, hoS, by simp [hl], fun c hc => ?_⟩ (by simpa [inV] using F₁₁)
   rcases List.mem_append.mp hc with hc | hc
   ·exact hp c hc
   ·simp at hc
    rw [hc]
    show 0 ≤ b.1 + (xs.map (·.1)).sum
    ktn_no "o4") ⟨rfl, _, oS, [], 0, rfl, hoS, rfl, by simp⟩ G₁ ?_
 rintro m' cm' news' s' ⟨rfl, o, l, kd, rfl, hl, hp⟩ G₂
 refine ⟨_, _, _, _, G₂, fun s'' F₇ => ?_⟩
 exact h D' l kd _ hl hp (F₇.sub ((((List.sublist_cons_self _ _)).cons₂ _).cons _))
end
noncomputable def allBut (h : Heap) (L : Addr) : List (Addr × Obj) := (List.range h.objs.size).filterMap fun a => if a = L then none else (h.get? a).map fun o => (a, o)
theorem mem_allBut {h : Heap} {L : Addr} {p : Addr × Obj} : p ∈ allBut h L ↔ p.1 ≠ L ∧ h.get? p.1 = some p.2 := by
 obtain ⟨a, o⟩ := p
 unfold allBut
 rw [List.mem_filterMap]
 constructor
 ·rintro ⟨b, _, e⟩
  split at e
  ·cases e
  ·rename_i hb
   cases q : h.get? b with
   | none => rw [q] at e; cases e
   | some o' => rw [q] at e; cases e; exact ⟨hb, q⟩
 ·rintro ⟨h1, h2⟩
  exact ⟨a, List.mem_range.mpr (Heap.lt_size h2), by rw [if_neg h1]; show (h.get? a).map _ = _; rw [h2]; rfl⟩
theorem zdu (b : Addr) : ({} : Heap).get? b = none := by
 cases q : ({} : Heap).get? b with
 | none => rfl
 | some o => exact absurd (Heap.lt_size q) (Nat.not_lt_zero _)
section
variable {w : World} {B : Heap} {L : Addr} {m : PySem.Str → Option Value} {cl : List (PySem.Str × Addr)} {cm : PySem.Str → Option Value} {news : List (Addr × Obj)} {s₀ s : Shared} {A : Around}
 {h : Heap} {g : Array GenState} {d d₀ : Drawn} {tk tk₀ : Nat} {os : OsState}
theorem Fm.fr (F : Fm w B L cl s₀ m cm news s) : Fr {} L s.heap m := ⟨F.ns, (fun b o e => by rw [zdu] at e; cases e), Nat.zero_le _⟩
theorem Fm.nws (_ : Fm w B L cl s₀ m cm news s) : PyProof.Rows.News {} L s.heap (allBut s.heap L) := fun p hp => ⟨(mem_allBut.mp hp).2, (mem_allBut.mp hp).1, zdu _⟩
theorem Fm.back {h' : Heap} {all : List (Addr × Obj)} (F : Fm w B L cl s₀ m cm news ⟨h, g, d₀, tk₀, os⟩) (F' : Fr {} L h' m) (N : PyProof.Rows.News {} L h' all) (hs : ∀ p ∈ allBut h L, p ∈ all) : Fm w B L cl s₀ m cm news ⟨h', g, d, tk, os⟩ := by
 have k : ∀ b o, b ≠ L → h.get? b = some o → h'.get? b = some o := fun b o hb e => (N (b, o) (hs _ (mem_allBut.mpr ⟨hb, e⟩))).1
 have bL : ∀ b o, B.get? b = some o → b ≠ L := fun b o e q => by rw [q, F.above.1] at e; cases e
 have tL : ∀ t, t < szTop → t ≠ L := fun t ht e => absurd F.szL (Nat.not_le.mpr (e ▸ ht))
 have eb : Heap.ExtBut L h h' := k
 have tb : TabOk h' := by
  (refine x1_2 (F.tb.a) ?_; intro ps a1 a2)
  (refine x1_2 (F.tb.b) ?_; intro qs b1 b2)
  exact ⟨⟨ps, a1.extBut eb (tL _ (by decide)) (tL _ (by decide)), a2.extBut eb (tL _ (by decide)) (tL _ (by decide))⟩,
   ⟨qs, b1.extBut eb (tL _ (by decide)) (tL _ (by decide)), b2.extBut eb (tL _ (by decide)) (tL _ (by decide))⟩⟩
 exact {
  wf := F.wf
  ns := F'.ns
  keep := fun b o e => k b o (bL b o e) (F.keep b o e)
  above := F.above
  nw := fun p hp => let ⟨a, b, c⟩ := F.nw p hp; ⟨k _ _ b a, b, c⟩
  nd := F.nd
  ce := fun n c e => by
   (refine x1_2 (F.ce n c e) ?_; intro o ho hd)
   exact ⟨o, k _ _ (F.cd n c e).1 ho, hd⟩
  cd := F.cd
  cp := F.cp
  tb := tb
  rl := ⟨F.rl.os, F.rl.gens, F.rl.bare, fun t ht ps e => by
   obtain ⟨mo, e'⟩ := F.rl.tg t ht ps e
   exact ⟨mo, k _ _ (tL t (tab_lt ht)) e'⟩, trivial⟩ }
theorem zeY {l b : Addr} {vs ws : List Value} {k1 k2 : Nat} {Q : Value → Shared → Prop} {E : Value → Shared → Prop} (F : Fm w B L cl s₀ m cm news ⟨h, g, d₀, tk₀, os⟩) (hl : h.get? l = some (lsO vs k1)) (hb : h.get? b = some (lsO ws k2)) (hsz : vs.length + ws.length ≤ 100000)
  (q : ∀ D h', Fm w B L cl s₀ m cm ((D, lsO (vs ++ ws) 0) :: news) ⟨h', g, d, tk, os⟩ → Q (.ref D) ⟨h', g, d, tk, os⟩) : wpAny (M w) A (binaryOp .Add (.ref l) (.ref b)) Q E ⟨h, g, d, tk, os⟩ := by
 refine add_lists (s := ⟨h, g, d, tk, os⟩) (h₀ := {}) (L := L) (m := m) (news := allBut h L) (Fm.fr (F.withD (d := d) (tk := tk))) (Fm.nws (F.withD (d := d) (tk := tk))) (isL hl) (isL hb) (fun h' F' N' => ?_) (Nat.le_trans hsz (show (100000 : Nat) ≤ sizeLine by decide))
 (refine x0_5 (Fm.freshC (a := h.objs.size) F (Nat.le_refl _)) ?_; intro a1 a2 a3 a4 a5)
 exact q _ _ (Fm.addC (F.back F' N' fun p hp => .tail _ hp) (N'.get (.head _)) a1 a2 a3 a4 a5)
end
theorem zcJ : ∀ (ls : List Value) (f : Nat → PySem.Str), (∀ j v, ls[j]? = some v → ∃ t, v = Value.str (f j) t) → ∃ y : List (PySem.Str × Tok), ls = strValues y ∧ y.map (·.1) = (List.range ls.length).map f
 | [], f, _ => ⟨[], rfl, rfl⟩
 | v :: ls, f, h => by
  obtain ⟨t, rfl⟩ := h 0 v rfl
  obtain ⟨y, hy, he⟩ := zcJ ls (fun j => f (j + 1)) fun j v e => h (j + 1) v (by simpa using e)
  refine ⟨(f 0, t) :: y, by rw [hy]; rfl, ?_⟩
  rw [List.map_cons, he, List.length_cons, List.range_succ_eq_map, List.map_cons, List.map_map]
  rfl
theorem zau {α β : Type} [Inhabited α] (ys : List α) (f : α → β) : (List.range ys.length).map (fun j => f (ys.getD j default)) = ys.map f := by
 refine List.ext_getElem (by simp) fun i h1 h2 => ?_
 simp [List.getD_eq_getElem?_getD, List.getElem?_eq_getElem (show i < ys.length by simpa using h2)]
theorem zc9 : ∀ {a b : List Int}, a.Perm b → a.Pairwise (· ≤ ·) → b.Pairwise (· ≤ ·) → a = b
 | [], b, p, _, _ => p.nil_eq
 | x :: a, [], p, _, _ => absurd p.symm.nil_eq (by simp)
 | x :: a, y :: b, p, ha, hb => by
  have h1 : x ∈ y :: b := p.mem_iff.mp (.head _)
  have h2 : y ∈ x :: a := p.mem_iff.mpr (.head _)
  have exy : x = y := by
   rcases List.mem_cons.mp h1 with e | e
   ·exact e
   ·rcases List.mem_cons.mp h2 with e' | e'
    ·exact e'.symm
    ·have := (List.pairwise_cons.mp ha).1 _ e'
     have := (List.pairwise_cons.mp hb).1 _ e
     ktn_no "o4"
  subst exy
  rw [zc9 (List.Perm.cons_inv p) (List.pairwise_cons.mp ha).2 (List.pairwise_cons.mp hb).2]
noncomputable def PrsIn (ys : List (Int × Int)) (vs : List Value) (l : List (Addr × Obj)) : Prop := vs.length = ys.length ∧ ∀ (j : Nat) (y : Int × Int), ys[j]? = some y → ∃ (a : Addr) (t u : Tok), vs[j]? = some (Value.ref a) ∧ (a, tupO [.int y.1 t, .int y.2 u]) ∈ l
theorem PrsIn.snoc {ys : List (Int × Int)} {vs : List Value} {l : List (Addr × Obj)} (h : PrsIn ys vs l) {y : Int × Int} {a : Addr} {t u : Tok} : PrsIn (ys ++ [y]) (vs ++ [.ref a]) ((a, tupO [.int y.1 t, .int y.2 u]) :: l) := by
 refine ⟨by simp [h.1], fun j z e => ?_⟩
 by_cases hj : j < ys.length
 ·rw [List.getElem?_append_left hj] at e
  obtain ⟨a', t', u', e1, e2⟩ := h.2 j z e
  exact ⟨a', t', u', by rw [List.getElem?_append_left (by rw [h.1]; exact hj)]; exact e1, .tail _ e2⟩
 ·have hlt := (List.getElem?_eq_some_iff.mp e).1
  simp at hlt
  have hj' : j = ys.length := by ktn_no "o4"
  subst hj'
  rw [List.getElem?_append_right (Nat.le_refl _), Nat.sub_self] at e
  simp at e
  subst e
  refine ⟨a, t, u, ?_, .head _⟩
  rw [List.getElem?_append_right (by rw [h.1]; exact Nat.le_refl _), h.1, Nat.sub_self]
  rfl
section
variable {w : World} {B : Heap} {C I D : Addr} {cl : List (PySem.Str × Addr)} {cm : PySem.Str → Option Value} {s₀ : Shared} {A : Around} {n : Nat} {P : Nat → Value → Prop} {Ob : Nat → Obj → Prop} {Sd : Heap → Prop}
 {elt target iter : Expr} {ifs : List Expr} {gens : List Comprehension} {scope : Scope} {pos : Pos} {acc : Value} {d : Nat} {env : Env} {Q : Shared → Prop}
theorem zgR (S : Steps w I n P Ob Sd) (hg : gens[d]? = some ⟨target, iter, ifs, 0⟩) (hn : gens[d + 1]? = none) (hh : A.handled = none)
  (Inv : Nat → (PySem.Str → Option Value) → (PySem.Str → Option Value) → List (Addr × Obj) → Prop)
  (hSd : ∀ i m cm news s o, Inv i m cm news → Fm w B C cl s₀ m cm ((I, o) :: news) s → Sd s.heap)
  (body : ∀ i v m cm news o s (K : Shared → Prop), i < n → P i v → Ob (i + 1) o → Inv i m cm news → Fm w B C cl s₀ m cm ((I, o) :: news) s →
   (∀ m' cm' news' s', Inv (i + 1) m' cm' news' → Fm w B C cl s₀ m' cm' ((I, o) :: news') s' → K s') →
   wpAny (M w) A (letOwnedTupleGo target (.ref I) v) (fun _ s₁' => wpAny (M w) A (assign target env v) (fun _ s₂ => wpAny (M w) A (ifsOk env ifs) (fun ok s₃ =>
     if ok = true then wpAny (M w) A (eval elt env) (fun y s₄ => wpAny (M w) A (call (.builtin "list.append") [acc, y]) (fun _ s₅ => K s₅) NoE s₄) NoE s₃
     else K s₃) NoE s₂) NoE s₁') NoE s) :
  ∀ (k i : Nat) (m cm : PySem.Str → Option Value) (news : List (Addr × Obj)) (o : Obj) (s : Shared), i + k = n → Ob i o → Inv i m cm news → Fm w B C cl s₀ m cm ((I, o) :: news) s →
   (∀ m' cm' news' s', Inv n m' cm' news' → Fm w B C cl s₀ m' cm' news' s' → Q s') → CompC w A (.ListComp elt gens scope pos) d (.ref I) acc env Q s := by
 intro k
 induction k with
 | zero =>
  intro i m cm news o s hi ho hv F hq
  refine zaL hg hn ?_
  have hs := hSd _ _ _ _ _ _ hv F
  obtain ⟨h, g, dd, tk, os⟩ := s
  refine F.endI S hh (by ktn_no "om") ho hs fun h' tk' F' => ?_
  exact hq _ _ _ _ (by rw [← hi]; exact hv) F'
 | succ k ih =>
  intro i m cm news o s hi ho hv F hq
  refine zaL hg hn ?_
  have hs := hSd _ _ _ _ _ _ hv F
  obtain ⟨h, g, dd, tk, os⟩ := s
  refine F.nextI S (by ktn_no "om") ho hs fun v h' tk' o' hP ho' F' => ?_
  refine body i v m cm news o' _ _ (by ktn_no "om") hP ho' hv F' fun m' cm' news' s' hv' F'' => ?_
  exact ih (i + 1) m' cm' news' o' s' (by ktn_no "om") ho' hv' F'' hq
theorem zdl (S : Steps w I n P Ob Sd) (self : SelfI w I Ob) (hg : gens[d]? = some ⟨target, iter, [], 0⟩) (hn : gens[d + 1]? = none) (hh : A.handled = none) (hsz : n ≤ 100000) (R : Nat → Value → Prop)
  {m cm : PySem.Str → Option Value} {rest : List (Addr × Obj)} {k₀ : Nat} {o : Obj} {s : Shared} (ho : Ob 0 o) (F : Fm w B C cl s₀ m cm ((I, o) :: (D, lsO [] k₀) :: rest) s)
  (hSd : ∀ m l k s o, Fm w B C cl s₀ m cm ((I, o) :: (D, lsO l k) :: rest) s → Sd s.heap)
  (body : ∀ i v m l k o s (K : Value → Shared → Prop), i < n → P i v → Ob (i + 1) o → Fm w B C cl s₀ m cm ((I, o) :: (D, lsO l k) :: rest) s →
   (∀ y m' s', R i y → Fm w B C cl s₀ m' cm ((I, o) :: (D, lsO l k) :: rest) s' → K y s') →
   wpAny (M w) A (letOwnedTupleGo target (.ref I) v) (fun _ s₁' => wpAny (M w) A (assign target env v) (fun _ s₂ => wpAny (M w) A (eval elt env) K NoE s₂) NoE s₁') NoE s)
  (hq : ∀ m' l k s', l.length = n → (∀ j y, l[j]? = some y → R j y) → Fm w B C cl s₀ m' cm ((D, lsO l k) :: rest) s' → Q s') : CompS w A (.ListComp elt gens scope pos) d (.ref I) (.ref D) env Q s := by
 have run := zgR (acc := .ref D) (scope := scope) (pos := pos) (elt := elt) (env := env) (cl := cl) (B := B) (C := C) (s₀ := s₀) (Q := Q) S hg hn hh (fun i m cm' news => cm' = cm ∧ ∃ l k, news = (D, lsO l k) :: rest ∧ l.length = i ∧ ∀ j y, l[j]? = some y → R j y) ?_ ?_ n 0 m cm ((D, lsO [] k₀) :: rest) o s (by ktn_no "om") ho ⟨rfl, [], _, rfl, rfl, fun j y e => by simp at e⟩ F ?_
 ·exact za3 hg run (self A o s _ ho (F.at 0 rfl) run)
 ·rintro i m cm' news s o ⟨rfl, l, k, rfl, _⟩ F
  exact hSd _ _ _ _ _ F
 ·rintro i v m cm' news o s K hi hP hO ⟨rfl, l, k, rfl, hl, hR⟩ F q
  refine wpAny_mono (body i v m l k o s _ hi hP hO F fun y m' s' hy F' => ?_) (fun _ s₁ h₁ => wpAny_mono h₁ (fun _ s₂ h₂ => wpAny_tests_nil (by rw [if_pos rfl]; exact h₂)) fun _ _ z => z) fun _ _ z => z
  obtain ⟨h, g, dd, tk, os⟩ := s'
  refine app_at 1 F' rfl (by ktn_no "om") fun h' F'' => q _ _ _ _ ⟨rfl, l ++ [y], _, rfl, by simp [hl], fun j z e => ?_⟩ F''
  by_cases hj : j < l.length
  ·rw [List.getElem?_append_left hj] at e; exact hR j z e
  ·rw [List.getElem?_append_right (by ktn_no "om")] at e
   have : j - l.length = 0 := by
    have := (List.getElem?_eq_some_iff.mp e).1
    simp at this; ktn_no "o4"
   rw [this] at e
   have hji : j = i := by ktn_no "o4"
   subst hji
   cases e; exact hy
 ·rintro m' cm' news' s' ⟨rfl, l, k, rfl, hl, hR⟩ F'
  exact hq _ _ _ _ hl hR F'
end
section
variable {w : World} {B : Heap} {L : Addr} {m cm : PySem.Str → Option Value} {cl : List (PySem.Str × Addr)} {news rest : List (Addr × Obj)} {s₀ s : Shared} {A : Around} {n : Nat}
 {h : Heap} {g : Array GenState} {d d₀ : Drawn} {tk tk₀ : Nat} {os : OsState}
theorem zeU (mx : Int) (st : List PySem.Str × List (PySem.Str × PySem.Str)) (v : PySem.Str) : (chunk mx st v).1.length ≤ st.1.length + 1 ∧ (chunk mx st v).2.length ≤ st.2.length + 1 := by
 unfold chunk; split <;> simp
theorem zcs (mx : Int) (st : List PySem.Str × List (PySem.Str × PySem.Str)) (v : PySem.Str) {c : Nat} (h : ∀ z ∈ st.2, Word c z) (hv : Word c (e0, v)) : ∀ z ∈ (chunk mx st v).2, Word c z := by
 unfold chunk
 split
 ·intro z hz; simp at hz; rw [hz]; exact hv
 ·intro z hz
  rcases List.mem_append.mp hz with hz | hz
  ·exact h z hz
  ·simp at hz; rw [hz]; exact hv
theorem zcv {c : Nat} (mx : Int) : ∀ (ws : List PySem.Str) (st : List PySem.Str × List (PySem.Str × PySem.Str)), (∀ z ∈ st.2, Word c z) → (∀ y ∈ ws, Word c (e0, y)) →
  (∀ z ∈ (ws.foldl (fun st v => chunk mx st v) st).2, Word c z) ∧ (ws.foldl (fun st v => chunk mx st v) st).1.length ≤ st.1.length + ws.length ∧ (ws.foldl (fun st v => chunk mx st v) st).2.length ≤ st.2.length + ws.length ∧
   ((ws ≠ [] ∨ st.2 ≠ []) → (ws.foldl (fun st v => chunk mx st v) st).2 ≠ [])
 | [], st, h, _ => ⟨h, Nat.le_refl _, Nat.le_refl _, fun h => h.resolve_left (fun z => z rfl)⟩
 | v :: ws, st, h, hw => by
  have hc := zeU mx st v
  have hn : (chunk mx st v).2 ≠ [] := by unfold chunk; split <;> simp
  obtain ⟨a, b, c, d⟩ := zcv mx ws (chunk mx st v) (zcs mx st v h (hw v (.head _))) fun y hy => hw y (.tail _ hy)
  rw [List.foldl_cons, List.length_cons]
  exact ⟨a, by ktn_no "o4", by ktn_no "o4", fun _ => d (.inr hn)⟩
theorem za4 {h : Heap} {g : Array GenState} {d d₀ : Drawn} {tk tk₀ : Nat} {os : OsState} {vs : List Value} {Q : Value → Shared → Prop} {E : Value → Shared → Prop} (F : Fm w B L cl s₀ m cm news ⟨h, g, d₀, tk₀, os⟩) (hz : vs.length ≤ 1000)
  (q : ∀ D h', Fm w B L cl s₀ m cm ((D, lsO vs 0) :: news) ⟨h', g, d, tk, os⟩ → Q (.ref D) ⟨h', g, d, tk, os⟩) : wpAny (M w) A (newList vs) Q E ⟨h, g, d, tk, os⟩ :=
 zap hz (q _ _ (F.push1 (g := g) (d := d) (tk := tk) (lsO vs 0)))
theorem zaS {h : Heap} {g : Array GenState} {d : Drawn} {tk : Nat} {os : OsState} {t : Addr} {v1 v2 : Value} {x y : PySem.Str} {Q : List Value → Shared → Prop} {E : Value → Shared → Prop} (hh : A.handled = none) (ht : h.get? t = some (tupO [v1, v2]))
  (hQ : ∀ h', Heap.ExtBut h.objs.size h h' → Q [v1, v2] ⟨h', g, d, tk, os⟩) : wpAny (M w) A (unpackItems (.ref t) [x, y].length none) Q E ⟨h, g, d, tk, os⟩ :=
 unpackItems_tuple (items := #[v1, v2]) (s := ⟨h, g, d, tk, os⟩) hh (zbe ht) fun h' he => hQ h' he
theorem list_go {I x T : Addr} {i : Nat} {elts : List Expr} {k : Nat} {pos : Pos} {Q : Unit → Shared → Prop} {E : Value → Shared → Prop} (e : s.heap.get? I = some (itO x i)) (q : Q () s) :
  wpAny (M w) A (letOwnedTupleGo (.Tuple elts k pos) (.ref I) (.ref T)) Q E s := by
 unfold letOwnedTupleGo
 refine wpAny_bind (wpAny_load e ?_)
 dsimp only
 (ktn_no "iN"; exact (by simp))
 exact wpAny_pure q
theorem zb0 {h : Heap} {g : Array GenState} {d d₀ : Drawn} {tk tk₀ : Nat} {os : OsState} {l : Addr} {xs : List (Int × Tok)} {Q : Value → Shared → Prop} {E : Value → Shared → Prop} (F : Fm w B L cl s₀ m cm news ⟨h, g, d₀, tk₀, os⟩) (hl : h.IsList l (inV xs).toArray) (h64 : xs.length < 64)
  (q : ∀ D h' ys k, (ys.map (·.1)).Perm (xs.map (·.1)) → (ys.map (·.1)).Pairwise (· ≤ ·) → Fm w B L cl s₀ m cm ((D, lsO (inV ys) k) :: news) ⟨h', g, d, tk, os⟩ → Q (.ref D) ⟨h', g, d, tk, os⟩) : wpAny (M w) A (call (.builtin "sorted") [.ref l]) Q E ⟨h, g, d, tk, os⟩ := by
 refine sorted_N (s := ⟨h, g, d, tk, os⟩) (h₀ := {}) (L := L) (m := m) (news := allBut h L) (Fm.fr (F.withD (d := d) (tk := tk))) (Fm.nws (F.withD (d := d) (tk := tk))) hl (zaE xs) (by simpa using h64) fun h' vs' ns' e F' N' hi hp hs => ?_
 obtain ⟨ys, rfl, rfl⟩ := inV_of hi
 obtain ⟨a1, a2, a3, a4, a5⟩ := Fm.freshC (a := h.objs.size + 1) F (Nat.le_succ _)
 exact q _ _ ys e hp hs (Fm.addC (F.back F' N' fun p hp => .tail _ hp) (N'.get (.head _)) a1 a2 a3 a4 a5)
theorem inV_at {xs : List (Int × Tok)} {i : Nat} (h : i < xs.length) : (inV xs)[i]? = some (.int ((xs.map (·.1)).getD i 0) (xs[i]'h).2) := by
 simp [List.getD_eq_getElem?_getD, List.getElem?_eq_getElem h]
theorem zca {h : Heap} {g : Array GenState} {d d₀ : Drawn} {tk tk₀ : Nat} {os : OsState} {vs : List Value} {Q : Value → Shared → Prop} {E : Value → Shared → Prop} (F : Fm w B L cl s₀ m cm news ⟨h, g, d₀, tk₀, os⟩) (hz : vs.length ≤ 1000)
  (q : ∀ T h', Fm w B L cl s₀ m cm ((T, tupO vs) :: news) ⟨h', g, d, tk, os⟩ → Q (.ref T) ⟨h', g, d, tk, os⟩) : wpAny (M w) A (newTuple vs) Q E ⟨h, g, d, tk, os⟩ :=
 zae hz (q _ _ (F.push1 (g := g) (d := d) (tk := tk) (tupO vs)))
end
open PySem PySem.Calls PyProof.Rows
section
variable {M : Model} {A : Around} {E : Value → Shared → Prop} {s : Shared} {a₀ : Array Keyed} {κ : SortKind} {pn : Array (Nat × Nat × Nat)}
noncomputable def Cmp (M : Model) (A : Around) (E : Value → Shared → Prop) (s : Shared) (κ : SortKind) (a₀ : Array Keyed) : Prop :=
 ∀ x y, x ∈ a₀ → y ∈ a₀ → ∀ (st : SortSt) (Q : Option Bool → SortSt → Prop), kindOf st = κ → (∀ b, Q (some b) st) → wpS M A E s (lt' x y) Q st
structure SOk (a₀ : Array Keyed) (κ : SortKind) (pn : Array (Nat × Nat × Nat)) (st : SortSt) : Prop where
 perm : (arrOf st).Perm a₀
 kind : kindOf st = κ
 failed : failedOf st = none
 pend : pendingOf st = pn
theorem SOk.size {st : SortSt} (h : SOk a₀ κ pn st) : (arrOf st).size = a₀.size := h.perm.size_eq
theorem SOk.setArr {st : SortSt} (h : SOk a₀ κ pn st) {xs : Array Keyed} (hp : xs.Perm (arrOf st)) : SOk a₀ κ pn (setArr st xs) := ⟨hp.trans h.perm, h.kind, h.failed, h.pend⟩
theorem SOk.mem {st : SortSt} (h : SOk a₀ κ pn st) {i : Nat} {x : Keyed} (e : (arrOf st)[i]? = some x) : x ∈ a₀ := h.perm.mem_iff.mp (Array.mem_of_getElem? e)
theorem SOk.get {st : SortSt} (h : SOk a₀ κ pn st) {i : Nat} (hi : i < a₀.size) : ∃ x, (arrOf st)[i]? = some x ∧ x ∈ a₀ :=
 ⟨_, getElem?_pos _ i (by rw [h.size]; exact hi), h.mem (getElem?_pos _ i (by rw [h.size]; exact hi))⟩
theorem zad {arr : Array Keyed} {i : Nat} {x : Keyed} {st : SortSt} {Q : Keyed → SortSt → Prop} (e : arr[i]? = some x) (h : Q x st) : wpS M A E s (elem' arr i) Q st := by
 rw [elem'_eq, e]; exact wpS_pure h
theorem zaJ {st : SortSt} {i j : Nat} {Q : Option Bool → SortSt → Prop} (hC : Cmp M A E s κ a₀) (h : SOk a₀ κ pn st) (hi : i < a₀.size) (hj : j < a₀.size) (q : ∀ b, Q (some b) st) : wpS M A E s (ltAt' i j) Q st := by
 (refine x1_2 (h.get hi) ?_; intro x e1 m1)
 (refine x1_2 (h.get hj) ?_; intro y e2 m2)
 rw [ltAt'_eq]
 refine wpS_bind (wpS_get ?_)
 refine wpS_bind (zad e1 (wpS_bind (zad e2 ?_)))
 exact hC x y m1 m2 st Q h.kind q
theorem zc1 {st : SortSt} {i j : Nat} {Q : Unit → SortSt → Prop} (h : Q () (setArr st (mirror (arrOf st) i j ((j - i) / 2)))) : wpS M A E s (reverseSlice' i j) Q st := by
 rw [reverseSlice'_eq]; exact wpS_modify h
theorem zaN {σ α : Type} {f : StateT σ Sem α} {st : σ} {Q : α → σ → Prop} (h : ∀ P : α → σ → Prop, (∀ r st', Q r st' → P r st') → wpS M A E s f P st) : wpS M A E s f Q st := h Q fun _ _ x => x
theorem zaj {σ α : Type} {x y : Nat} {t e : StateT σ Sem α} {st : σ} {Q : α → σ → Prop} (h1 : x = y → wpS M A E s t Q st) (h2 : x ≠ y → wpS M A E s e Q st) : wpS M A E s (if (x == y) = true then t else e) Q st := by
 by_cases h : x = y
 ·rw [if_pos (by simpa using h)]; exact h1 h
 ·rw [if_neg (by simpa using h)]; exact h2 h
theorem zai {σ α : Type} {c : Prop} [Decidable c] {t e : StateT σ Sem α} {st : σ} {Q : α → σ → Prop} (h1 : c → wpS M A E s t Q st) (h2 : ¬c → wpS M A E s e Q st) : wpS M A E s (if c then t else e) Q st := by
 by_cases h : c
 ·rw [if_pos h]; exact h1 h
 ·rw [if_neg h]; exact h2 h
theorem half_lt {l r k : Nat} (h : ¬ l ≥ r) (hr : r ≤ k) : (l + r) / 2 < k := Nat.lt_of_lt_of_le (Nat.div_lt_of_lt_mul (by rw [Nat.two_mul]; exact Nat.add_lt_add_right (Nat.lt_of_not_le h) r)) hr
theorem zgT {st : SortSt} {lo nrem : Nat} {Q : Option Nat → SortSt → Prop} (hC : Cmp M A E s κ a₀) (h : SOk a₀ κ pn st) (h1 : 1 ≤ nrem) (hn : lo + nrem ≤ a₀.size)
  (q : ∀ m st', SOk a₀ κ pn st' → 1 ≤ m → m ≤ nrem → Q (some m) st') : wpS M A E s (countRun' lo nrem) Q st := by
 rw [countRun'_eq]
 have L : ∀ {x}, x < nrem → lo + x < a₀.size := fun h => Nat.lt_of_lt_of_le (Nat.add_lt_add_left h lo) hn
 have L' : ∀ {x}, x < nrem → lo + x - 1 < a₀.size := fun h => Nat.lt_of_le_of_lt (Nat.sub_le _ _) (L h)
 refine wpS_bind (wpS_mono (wpS_forRange (I := fun x c st' => st' = st ∧ c = (none, x)) (Q := fun c st' => st' = st ∧ ∃ n, c = (none, n) ∧ 1 ≤ n ∧ n ≤ nrem) ?step ?fin ⟨rfl, rfl⟩) ?post)
 case fin =>
  rintro c st' ⟨rfl, rfl⟩
  exact ⟨rfl, _, rfl, Nat.le_max_left _ _, Nat.max_le.mpr ⟨h1, Nat.le_refl _⟩⟩
 case step =>
  rintro x c st' hx1 hx2 ⟨rfl, rfl⟩
  dsimp only
  refine wpS_bind (zaJ hC h (L hx2) (L' hx2) fun b => ?_)
  cases b
  ·exact wpS_pure ⟨rfl, rfl⟩
  ·exact wpS_pure ⟨rfl, x, rfl, hx1, Nat.le_of_lt hx2⟩
 case post =>
  rintro c st' ⟨rfl, n, rfl, hn1, hn2⟩
  refine zaj (fun e => wpS_pure (q n _ h hn1 hn2)) fun e => ?_
  extract_lets _ _ jp
  have J : ∀ r st2, SOk a₀ κ pn st2 → wpS M A E s (jp r) Q st2 := by
   intro r st2 h2
   refine wpS_bind (wpS_lift (wpAny_rule ⟨rfl, ?_⟩))
   refine wpS_bind (wpS_mono (wpS_forRange (I := fun x c st' => SOk a₀ κ pn st' ∧ ∃ z, c = (none, x, z)) (Q := fun c st' => SOk a₀ κ pn st' ∧ ∃ m z, c = (none, m, z) ∧ 1 ≤ m ∧ m ≤ nrem) (fun x c st' hx1 hx2 hh => ?_) (fun c st' hh => by obtain ⟨h', z, rfl⟩ := hh; exact ⟨h', _, z, rfl, Nat.le_trans h1 (Nat.le_max_right _ _), Nat.max_le.mpr ⟨Nat.lt_of_le_of_ne hn2 e, Nat.le_refl _⟩⟩) ⟨h2, 0, rfl⟩) (fun c st2 hh => ?_))
   ·obtain ⟨h', z, rfl⟩ := hh
    refine zaN fun P hP => ?_
    refine wpS_bind (zaJ hC h' (L hx2) (L' hx2) fun b => ?_)
    cases b
    ·refine wpS_bind (zaJ hC h' (L' hx2) (L hx2) fun b => ?_)
     cases b
     ·exact wpS_pure (hP _ _ ⟨h', _, rfl⟩)
     ·exact wpS_pure (hP _ _ ⟨h', x, z, rfl, Nat.le_trans (Nat.succ_le_succ (Nat.zero_le _)) hx1, Nat.le_of_lt hx2⟩)
    ·exact zai (fun _ => zai (fun _ => wpS_bind (zc1 (wpS_pure (hP _ _ ⟨h'.setArr (mirror_perm _ _ _ _), _, rfl⟩)))) fun _ => wpS_pure (hP _ _ ⟨h', _, rfl⟩)) fun c => absurd rfl c
   ·(refine y2_3 (hh) ?_; try clear hh; intro k m z eqX3 hm1 hm2; subst eqX3)
    dsimp -zeta only
    extract_lets _ _ _ _ jp2
    have J2 : ∀ r st2, SOk a₀ κ pn st2 → wpS M A E s (jp2 r) Q st2 := by
     intro r st2 k
     refine wpS_bind (zc1 ?_)
     have k' := k.setArr (mirror_perm (arrOf st2) lo (lo + m) ((lo + m - lo) / 2))
     refine wpS_bind (wpS_mono (wpS_forRange (a := m) (b := nrem) (I := fun x c st' => SOk a₀ κ pn st' ∧ c = (none, x)) (Q := fun c st' => SOk a₀ κ pn st' ∧ ∃ n, c = (none, n) ∧ 1 ≤ n ∧ n ≤ nrem) (fun x c st' hx1 hx2 hh => ?_) (fun c st' hh => by obtain ⟨h', rfl⟩ := hh; exact ⟨h', _, rfl, Nat.le_trans h1 (Nat.le_max_right _ _), Nat.max_le.mpr ⟨hm2, Nat.le_refl _⟩⟩) ⟨k', rfl⟩) (fun c st' hh => ?_))
     ·obtain ⟨h', rfl⟩ := hh
      refine zaN fun P hP => ?_
      refine wpS_bind (zaJ hC h' (L hx2) (L' hx2) fun b => ?_)
      cases b
      ·exact wpS_pure (hP _ _ ⟨h', rfl⟩)
      ·exact wpS_pure (hP _ _ ⟨h', x, rfl, Nat.le_trans hm1 hx1, Nat.le_of_lt hx2⟩)
     ·(refine y1_3 (hh) ?_; try clear hh; intro h' n' eqX2 hn1 hn2; subst eqX2)
      exact wpS_pure (q n' _ h' hn1 hn2)
    exact zai (fun _ => wpS_bind (zc1 (J2 () _ (k.setArr (mirror_perm _ _ _ _))))) fun _ => J2 () _ k
  refine zai (fun hgt => wpS_bind (zaJ hC h (L h1) (L' (Nat.lt_of_le_of_ne hn2 e)) fun b => ?_)) fun _ => J () _ h
  cases b
  ·exact wpS_bind (zc1 (J () _ (h.setArr (mirror_perm _ _ _ _))))
  ·exact wpS_pure (q n _ h hn1 hn2)
theorem bin_any {st : SortSt} {lo n ok : Nat} {Q : Bool → SortSt → Prop} (hC : Cmp M A E s κ a₀) (h : SOk a₀ κ pn st) (hn : lo + n ≤ a₀.size) (q : ∀ st', SOk a₀ κ pn st' → Q true st') : wpS M A E s (binarySort' lo n ok) Q st := by
 rw [binarySort'_eq]
 refine wpS_bind (wpS_mono (wpS_forRange (I := fun k c st' => c = (none, ()) ∧ SOk a₀ κ pn st') (Q := fun c st' => c = (none, ()) ∧ SOk a₀ κ pn st') ?step (fun _ _ x => x) ⟨rfl, h⟩) ?post)
 case post =>
  rintro c st' ⟨rfl, h'⟩
  exact wpS_pure (q _ h')
 case step =>
  rintro k c st' hk1 hk2 ⟨rfl, h'⟩
  dsimp only
  refine wpS_bind (wpS_mono (wpS_forRange (I := fun x c st'' => st'' = st' ∧ ∃ l r, c = (none, l, r) ∧ r ≤ k) (Q := fun c st'' => st'' = st' ∧ ∃ l r, c = (none, l, r)) ?istep ?ifin ⟨rfl, 0, k, rfl, Nat.le_refl _⟩) ?ipost)
  case ifin =>
   rintro c st'' ⟨rfl, l, r, rfl, _⟩
   exact ⟨rfl, l, r, rfl⟩
  case istep =>
   rintro x c st'' _ hx ⟨rfl, l, r, rfl, hr⟩
   dsimp only
   by_cases hge : l ≥ r
   ·rw [if_pos hge]
    exact wpS_pure ⟨rfl, l, r, rfl⟩
   ·rw [if_neg hge]
    have L := half_lt hge hr
    refine wpS_bind (zaJ hC h' (Nat.lt_of_lt_of_le (Nat.add_lt_add_left hk2 lo) hn) (Nat.lt_of_lt_of_le (Nat.add_lt_add_left (Nat.lt_trans L hk2) lo) hn) fun b => ?_)
    cases b
    ·exact wpS_pure ⟨rfl, _, _, rfl, hr⟩
    ·exact wpS_pure ⟨rfl, _, _, rfl, Nat.le_of_lt L⟩
  case ipost =>
   rintro c st'' ⟨rfl, l, r, rfl⟩
   show wpS _ _ _ _ (do moveDown' (lo + k) (lo + l); pure (ForInStep.yield (none, ()))) _ _
   rw [moveDown'_eq]
   exact wpS_bind (wpS_modify (wpS_pure ⟨rfl, h'.setArr (bubble_perm _ _ _)⟩))
end
open PySem PySem.Calls PyProof.Rows
noncomputable def gallop' : Bool → Keyed → Array Keyed → Nat → Nat → Nat → StateT SortSt Sem (Option Nat) := sortPriv% PySem.Builtin.gallop
noncomputable def mergeLo' : Array Keyed → Array Keyed → StateT SortSt Sem (Array Keyed) := sortPriv% PySem.Builtin.mergeLo
noncomputable def mergeHi' : Array Keyed → Array Keyed → StateT SortSt Sem (Array Keyed) := sortPriv% PySem.Builtin.mergeHi
section
variable {M : Model} {A : Around} {E : Value → Shared → Prop} {s : Shared} {a₀ : Array Keyed} {κ : SortKind} {pn : Array (Nat × Nat × Nat)}
theorem mid_lt {l h n : Nat} (hl : h ≤ n) (k : ¬ l ≥ h) : l + (h - l) / 2 < n := by ktn_no "o4"
theorem dbl_lt (o : Nat) : o < 2 * o + 1 := Nat.lt_succ_of_le (Nat.le_mul_of_pos_left o (by decide))
theorem zax {left : Bool} {key : Keyed} {arr : Array Keyed} {base n hint : Nat} {st : SortSt} {Q : Option Nat → SortSt → Prop} (hC : Cmp M A E s κ a₀) (hk : kindOf st = κ) (hm : key ∈ a₀) (ha : ∀ i, i < n → ∃ x, arr[base + i]? = some x ∧ x ∈ a₀) (hh : hint < n)
  (q : ∀ k, k ≤ n → Q (some k) st) : wpS M A E s (gallop' left key arr base n hint) Q st := by
 have bey : ∀ (i : Nat) (Q : Option Bool → SortSt → Prop), i < n → (∀ b, Q (some b) st) → wpS M A E s (do
   let x ← elem' arr (base + i)
   if left = true then lt' x key else do
    let r ← lt' key x
    pure (r.map (!·))) Q st := fun i Q hi hq => by
  (refine x1_2 (ha i hi) ?_; intro x e hx)
  refine wpS_bind (zad e ?_)
  cases left
  ·exact wpS_bind (hC key x hm hx st _ hk fun b => wpS_pure (hq _))
  ·exact hC x key hx hm st _ hk hq
 refine wpS_bind (bey hint _ hh fun right => ?_)
 cases right
 ·dsimp only
  rw [if_neg Bool.false_ne_true]
  refine wpS_bind (wpS_mono (wpS_forRange (I := fun _ c st' => st = st' ∧ ∃ l o, c = (none, l, o) ∧ l < o ∧ l < hint + 1) (Q := fun c st' => st = st' ∧ ∃ l o, c = (none, l, o) ∧ l < o ∧ l < hint + 1) (fun y c st' _ hy hh => ?_) (fun _ _ z => z) ⟨rfl, 0, 1, rfl, Nat.one_pos, Nat.succ_pos _⟩) (fun c st' hh => ?_))
  ·(refine y2_3 (hh) ?_; try clear hh; intro eqX0 l o eqX3 h1 h2; subst eqX0; subst eqX3)
   dsimp only
   by_cases hge : o ≥ hint + 1
   ·rw [if_pos hge]
    exact wpS_pure ⟨rfl, l, o, rfl, h1, h2⟩
   ·rw [if_neg hge]
    refine wpS_bind (bey _ _ (Nat.lt_of_le_of_lt (Nat.sub_le _ _) hh) fun more => ?_)
    cases more
    ·exact wpS_pure ⟨rfl, o, _, rfl, dbl_lt o, Nat.lt_of_not_le hge⟩
    ·exact wpS_pure ⟨rfl, l, o, rfl, h1, h2⟩
  ·(refine y2_3 (hh) ?_; try clear hh; intro eqX0 l o eqX3 h1 h2; subst eqX0; subst eqX3)
   dsimp only
   refine wpS_bind (wpS_mono (wpS_forRange (I := fun _ c st' => st = st' ∧ ∃ l h, c = (none, l, h) ∧ h ≤ n) (Q := fun c st' => st = st' ∧ ∃ l h, c = (none, l, h) ∧ h ≤ n) (fun y c st' _ hy hh => ?_) (fun _ _ z => z) ⟨rfl, _, _, rfl, Nat.le_trans (Nat.sub_le _ _) (Nat.le_of_lt hh)⟩) (fun c st' hh => ?_))
   ·(refine y2_2 (hh) ?_; try clear hh; intro eqX0 l h eqX3 hl; subst eqX0; subst eqX3)
    dsimp only
    by_cases hge : l ≥ h
    ·rw [if_pos hge]
     exact wpS_pure ⟨rfl, l, h, rfl, hl⟩
    ·rw [if_neg hge]
     have L := mid_lt hl hge
     refine wpS_bind (bey _ _ L fun more => ?_)
     cases more
     ·exact wpS_pure ⟨rfl, _, _, rfl, Nat.le_of_lt L⟩
     ·exact wpS_pure ⟨rfl, _, _, rfl, hl⟩
   ·(refine y2_2 (hh) ?_; try clear hh; intro eqX0 l h eqX3 hl; subst eqX0; subst eqX3)
    exact wpS_pure (q h hl)
 ·dsimp only
  rw [if_pos rfl]
  refine wpS_bind (wpS_mono (wpS_forRange (I := fun _ c st' => st = st' ∧ ∃ l o, c = (none, l, o) ∧ l < o ∧ l < n - hint) (Q := fun c st' => st = st' ∧ ∃ l o, c = (none, l, o) ∧ l < o ∧ l < n - hint) (fun y c st' _ hy hh => ?_) (fun _ _ z => z) ⟨rfl, 0, 1, rfl, Nat.one_pos, Nat.sub_pos_of_lt hh⟩) (fun c st' hh => ?_))
  ·(refine y2_3 (hh) ?_; try clear hh; intro eqX0 l o eqX3 h1 h2; subst eqX0; subst eqX3)
   dsimp only
   by_cases hge : o ≥ n - hint
   ·rw [if_pos hge]
    exact wpS_pure ⟨rfl, l, o, rfl, h1, h2⟩
   ·rw [if_neg hge]
    refine wpS_bind (bey _ _ (Nat.add_lt_of_lt_sub' (Nat.lt_of_not_le hge)) fun more => ?_)
    cases more
    ·exact wpS_pure ⟨rfl, l, o, rfl, h1, h2⟩
    ·exact wpS_pure ⟨rfl, o, _, rfl, dbl_lt o, Nat.lt_of_not_le hge⟩
  ·(refine y2_3 (hh) ?_; try clear hh; intro eqX0 l o eqX3 h1 h2; subst eqX0; subst eqX3)
   dsimp only
   refine wpS_bind (wpS_mono (wpS_forRange (I := fun _ c st' => st = st' ∧ ∃ l h, c = (none, l, h) ∧ h ≤ n) (Q := fun c st' => st = st' ∧ ∃ l h, c = (none, l, h) ∧ h ≤ n) (fun y c st' _ hy hh => ?_) (fun _ _ z => z) ⟨rfl, _, _, rfl, Nat.add_le_of_le_sub' (Nat.le_of_lt hh) (Nat.min_le_right _ _)⟩) (fun c st' hh => ?_))
   ·(refine y2_2 (hh) ?_; try clear hh; intro eqX0 l h eqX3 hl; subst eqX0; subst eqX3)
    dsimp only
    by_cases hge : l ≥ h
    ·rw [if_pos hge]
     exact wpS_pure ⟨rfl, l, h, rfl, hl⟩
    ·rw [if_neg hge]
     have L := mid_lt hl hge
     refine wpS_bind (bey _ _ L fun more => ?_)
     cases more
     ·exact wpS_pure ⟨rfl, _, _, rfl, Nat.le_of_lt L⟩
     ·exact wpS_pure ⟨rfl, _, _, rfl, hl⟩
   ·(refine y2_2 (hh) ?_; try clear hh; intro eqX0 l h eqX3 hl; subst eqX0; subst eqX3)
    exact wpS_pure (q h hl)
end
open PySem PySem.Calls PyProof.Rows
structure Sm (st st' : SortSt) : Prop where
 a : arrOf st' = arrOf st
 k : kindOf st' = kindOf st
 f : failedOf st' = failedOf st
 p : pendingOf st' = pendingOf st
theorem Sm.refl (st : SortSt) : Sm st st := ⟨rfl, rfl, rfl, rfl⟩
theorem Sm.trans {a b c : SortSt} (x : Sm a b) (y : Sm b c) : Sm a c := ⟨y.a.trans x.a, y.k.trans x.k, y.f.trans x.f, y.p.trans x.p⟩
noncomputable def LfRun (a b : Array Keyed) (out : Array Keyed) (ia ib : Nat) : Prop := (out.toList ++ (a.toList.drop ia ++ b.toList.drop ib)).Perm (a.toList ++ b.toList)
section
variable {M : Model} {A : Around} {E : Value → Shared → Prop} {s : Shared} {a₀ : Array Keyed} {κ : SortKind} {pn : Array (Nat × Nat × Nat)}
theorem at_mem {a : Array Keyed} (ha : ∀ x ∈ a, x ∈ a₀) {i : Nat} (hi : i < a.size) : ∃ x, a[i]? = some x ∧ x ∈ a₀ :=
 ⟨_, getElem?_pos a i hi, ha _ (Array.mem_of_getElem? (getElem?_pos a i hi))⟩
theorem zcU {a : Array Keyed} {i : Nat} {x : Keyed} (e : a[i]? = some x) : a.toList.drop i = x :: a.toList.drop (i + 1) := by
 have hi : i < a.toList.length := by
  obtain ⟨h, _⟩ := Array.getElem?_eq_some_iff.mp e
  simpa using h
 rw [List.drop_eq_getElem_cons hi]
 congr 1
 obtain ⟨h, e⟩ := Array.getElem?_eq_some_iff.mp e
 simpa using e
theorem LfRun.a1 {a b out : Array Keyed} {ia ib : Nat} {x : Keyed} (h : LfRun a b out ia ib) (e : a[ia]? = some x) : LfRun a b (out.push x) (ia + 1) ib := by
 unfold LfRun at *
 rw [zcU e] at h
 simpa using h
theorem LfRun.b1 {a b out : Array Keyed} {ia ib : Nat} {x : Keyed} (h : LfRun a b out ia ib) (e : b[ib]? = some x) : LfRun a b (out.push x) ia (ib + 1) := by
 unfold LfRun at *
 rw [zcU e] at h
 refine List.Perm.trans ?_ h
 rw [Array.toList_push, List.append_assoc]
 refine List.Perm.append_left _ ?_
 exact (List.perm_middle (l₁ := a.toList.drop ia)).symm
theorem zc6 (a : Array Keyed) (i k : Nat) : a.toList.drop i = (a.extract i (i + k)).toList ++ a.toList.drop (i + k) := by
 rw [Array.toList_extract, List.extract_eq_drop_take, Nat.add_sub_cancel_left, ← List.drop_drop]
 exact (List.take_append_drop k _).symm
theorem zcN (a : Array Keyed) (i : Nat) : (a.extract i a.size).toList = a.toList.drop i := by
 rw [Array.toList_extract, List.extract_eq_drop_take]
 exact List.take_of_length_le (by simp)
theorem LfRun.ak {a b out : Array Keyed} {ia ib : Nat} (k : Nat) (h : LfRun a b out ia ib) : LfRun a b (out ++ a.extract ia (ia + k)) (ia + k) ib := by
 unfold LfRun at *
 rw [zc6 a ia k] at h
 simpa using h
theorem LfRun.bk {a b out : Array Keyed} {ia ib : Nat} (k : Nat) (h : LfRun a b out ia ib) : LfRun a b (out ++ b.extract ib (ib + k)) ia (ib + k) := by
 unfold LfRun at *
 rw [zc6 b ib k] at h
 refine List.Perm.trans ?_ h
 rw [Array.toList_append, List.append_assoc]
 refine List.Perm.append_left _ ?_
 rw [← List.append_assoc, ← List.append_assoc]
 exact List.perm_append_comm.append_right _
theorem LfRun.done {a b out : Array Keyed} {ia ib : Nat} (h : LfRun a b out ia ib) : (out ++ a.extract ia a.size ++ b.extract ib b.size).toList.Perm (a.toList ++ b.toList) := by
 unfold LfRun at h
 rw [Array.toList_append, Array.toList_append, zcN, zcN, List.append_assoc]
 exact h
theorem LfRun.last {a b out : Array Keyed} {ia ib : Nat} (h : LfRun a b out ia ib) : (out ++ b.extract ib b.size ++ a.extract ia a.size).toList.Perm (a.toList ++ b.toList) := by
 unfold LfRun at h
 rw [Array.toList_append, Array.toList_append, zcN, zcN, List.append_assoc]
 exact (List.perm_append_comm.append_left _).trans h
structure Lo (a b : Array Keyed) (k n : Nat) (o : Array Keyed) (i j : Nat) : Prop where
 l : LfRun a b o i j
 i1 : i + 1 < a.size
 j1 : j < b.size
 m : k + (a.size + b.size) ≤ n + (i + j)
theorem Lo.weak {a b o : Array Keyed} {k k' n n' i j : Nat} (h : Lo a b k n o i j) (e : k' ≤ k) (e' : n ≤ n') : Lo a b k' n' o i j := ⟨h.l, h.i1, h.j1, Nat.le_trans (Nat.add_le_add_right e _) (Nat.le_trans h.m (Nat.add_le_add_right e' _))⟩
theorem Lo.a1 {a b o : Array Keyed} {k n i j : Nat} {x : Keyed} (h : Lo a b k n o i j) (e : a[i]? = some x) (c : i + 1 + 1 ≠ a.size) : Lo a b (k + 1) n (o.push x) (i + 1) j :=
 ⟨h.l.a1 e, Nat.lt_of_le_of_ne h.i1 c, h.j1, by rw [Nat.add_right_comm k 1, Nat.add_right_comm i 1]; exact Nat.succ_le_succ h.m⟩
theorem Lo.b1 {a b o : Array Keyed} {k n i j : Nat} {x : Keyed} (h : Lo a b k n o i j) (e : b[j]? = some x) (c : j + 1 ≠ b.size) : Lo a b (k + 1) n (o.push x) i (j + 1) :=
 ⟨h.l.b1 e, h.i1, Nat.lt_of_le_of_ne h.j1 c, by rw [Nat.add_right_comm k 1]; exact Nat.succ_le_succ h.m⟩
theorem Lo.ak {a b o : Array Keyed} {k n i j d : Nat} (h : Lo a b k n o i j) (hd : d ≤ a.size - i) (c : i + d + 1 ≠ a.size) (c' : i + d ≠ a.size) : Lo a b k n (o ++ a.extract i (i + d)) (i + d) j :=
 ⟨h.l.ak d, Nat.lt_of_le_of_ne (Nat.lt_of_le_of_ne (Nat.add_le_of_le_sub' (Nat.le_of_succ_le (Nat.le_of_succ_le h.i1)) hd) c') c, h.j1, Nat.le_trans h.m (Nat.add_le_add_left (Nat.add_le_add_right (Nat.le_add_right i d) j) n)⟩
theorem Lo.bk {a b o : Array Keyed} {k n i j d : Nat} (h : Lo a b k n o i j) (hd : d ≤ b.size - j) (c : j + d ≠ b.size) : Lo a b k n (o ++ b.extract j (j + d)) i (j + d) :=
 ⟨h.l.bk d, h.i1, Nat.lt_of_le_of_ne (Nat.add_le_of_le_sub' (Nat.le_of_lt h.j1) hd) c, Nat.le_trans h.m (Nat.add_le_add_left (Nat.add_le_add_left (Nat.le_add_right j d) i) n)⟩
theorem Lo.start {a b o : Array Keyed} {k n i j : Nat} (h : Lo a b k n o i j) : Lo a b 0 (a.size - i + (b.size - j)) o i j := ⟨h.l, h.i1, h.j1, Nat.le_of_eq (by rw [Nat.zero_add, Nat.add_add_add_comm, Nat.sub_add_cancel (Nat.le_of_succ_le (Nat.le_of_succ_le h.i1)), Nat.sub_add_cancel (Nat.le_of_lt h.j1)])⟩
theorem Lo.ix {a b o : Array Keyed} {k n i j : Nat} (h : Lo a b k n o i j) : i < a.size := Nat.lt_of_succ_lt h.i1
theorem lo_back {k S n T μ V : Nat} (h0 : μ + T = S) (h1 : 1 + S ≤ μ + V) (h2 : k + S ≤ n + T) : k + 1 + S ≤ n + V := by ktn_no "o4"
theorem Lo.back {a b o o' : Array Keyed} {k n i j i' j' : Nat} (L : Lo a b k n o i j) (L1 : Lo a b 1 (a.size - i + (b.size - j)) o' i' j') : Lo a b (k + 1) n o' i' j' := ⟨L1.l, L1.i1, L1.j1, lo_back (by rw [Nat.add_add_add_comm, Nat.sub_add_cancel (Nat.le_of_lt L.ix), Nat.sub_add_cancel (Nat.le_of_lt L.j1)]) L1.m L.m⟩
inductive Lo5 (a b : Array Keyed) (k n : Nat) : Option (Array Keyed) × Array Keyed × Nat × Nat × Nat → Prop
 | mk {o i j g} : Lo a b k n o i j → Lo5 a b k n (none, o, i, j, g)
inductive Lo6 (a b : Array Keyed) (k n : Nat) : Option (Array Keyed) × Array Keyed × Nat × Nat × Nat × Nat → Prop
 | mk {o i j p q} : Lo a b k n o i j → Lo6 a b k n (none, o, i, j, p, q)
inductive Lo7 (a b : Array Keyed) (k n : Nat) : Option (Array Keyed) × Array Keyed × Nat × Nat × Nat × Nat × Nat → Prop
 | mk {o i j g p q} : Lo a b k n o i j → Lo7 a b k n (none, o, i, j, g, p, q)
inductive Mgd (a b : Array Keyed) {α : Type} : Option (Array Keyed) × α → Prop
 | mk {r c} : r.toList.Perm (a.toList ++ b.toList) → Mgd a b (some r, c)
theorem zet {a b : Array Keyed} {st : SortSt} {Q : Array Keyed → SortSt → Prop} (hC : Cmp M A E s κ a₀) (hk : kindOf st = κ) (ha : ∀ x ∈ a, x ∈ a₀) (hb : ∀ x ∈ b, x ∈ a₀) (na : 0 < a.size) (nb : 0 < b.size)
  (q : ∀ r st', r.toList.Perm (a.toList ++ b.toList) → Sm st st' → Q r st') : wpS M A E s (mergeLo' a b) Q st := by
 refine wpS_bind (wpS_lift (wpAny_rule ⟨rfl, ?_⟩))
 (refine x1_2 (at_mem hb nb) ?_; intro y0 e0 m0)
 refine wpS_bind (zad e0 ?_)
 have L0 : LfRun a b #[y0] 0 1 := by
  unfold LfRun
  have := zcU e0
  rw [List.drop_zero] at this
  rw [this]
  simp
  exact List.perm_middle.symm
 refine zaj (fun c1 => ?_) (fun c1 => ?_)
 ·exact wpS_pure (q _ _ L0.done (Sm.refl _))
 refine zaj (fun c2 => ?_) (fun c2 => ?_)
 ·exact wpS_pure (q _ _ L0.last (Sm.refl _))
 refine wpS_bind (wpS_get ?_)
 refine wpS_bind (wpS_mono (wpS_forRange
  (I := fun x c st' => Sm st st' ∧ Lo5 a b (x + 1) (a.size + b.size) c)
  (Q := fun c st' => Sm st st' ∧ Mgd a b c) (fun x c st' _ hx hh => ?_) (fun c st' hh => ?_) ⟨Sm.refl st, .mk ⟨L0, Nat.lt_of_le_of_ne na c2, Nat.lt_of_le_of_ne nb c1, Nat.le_of_eq (Nat.add_comm _ _)⟩⟩) (fun c st' hh => ?_))
 ·obtain ⟨S1, hh⟩ := hh
  cases hh with | @mk out ia ib g L => ?_
  have kx := S1.k.trans hk
  refine wpS_bind (wpS_mono (wpS_forRange
   (I := fun y c st1 => st' = st1 ∧ Lo6 a b y (a.size - ia + (b.size - ib)) c)
   (Q := fun c st1 => st' = st1 ∧ (Lo6 a b 1 (a.size - ia + (b.size - ib)) c ∨ Mgd a b c))
   (fun y c st1 _ hy hh => ?_) (fun c st1 hh => ?_) ⟨rfl, .mk L.start⟩) (fun c st1 hh => ?_))
  ·obtain ⟨rfl, hh⟩ := hh
   cases hh with | @mk o i j p q' L1 => ?_
   (refine x1_2 (at_mem hb (i := j) L1.j1) ?_; intro xb eb mb)
   obtain ⟨xa, ea, ma⟩ := at_mem ha (i := i) L1.ix
   refine wpS_bind (zad eb (wpS_bind (zad ea (wpS_bind (hC xb xa mb ma _ _ kx fun w => ?_)))))
   cases w
   ·refine wpS_bind (zad ea (zaj (fun c3 => wpS_pure ⟨rfl, .inr (.mk (L1.l.a1 ea).last)⟩) fun c3 => ?_))
    have L2 := L1.a1 ea c3
    exact zai (fun _ => wpS_pure ⟨rfl, .inl (.mk (L2.weak (by ktn_no "om") (Nat.le_refl _)))⟩) fun _ => wpS_pure ⟨rfl, .mk L2⟩
   ·refine wpS_bind (zad eb (zaj (fun c3 => wpS_pure ⟨rfl, .inr (.mk (L1.l.b1 eb).done)⟩) fun c3 => ?_))
    have L2 := L1.b1 eb c3
    exact zai (fun _ => wpS_pure ⟨rfl, .inl (.mk (L2.weak (by ktn_no "om") (Nat.le_refl _)))⟩) fun _ => wpS_pure ⟨rfl, .mk L2⟩
  ·obtain ⟨rfl, hh⟩ := hh
   cases hh with | @mk o i j p q' L1 => exact ⟨rfl, .inl (.mk (L1.weak (Nat.le_trans (Nat.le_trans na (Nat.le_add_right _ _)) (Nat.le_max_right _ _)) (Nat.le_refl _)))⟩
  ·obtain ⟨rfl, hh | hh⟩ := hh
   case inr => cases hh with | @mk r rest hr => exact wpS_pure ⟨S1, .mk hr⟩
   cases hh with | @mk o i j p q' L1 => ?_
   refine wpS_bind (wpS_lift (wpAny_rule ⟨rfl, ?_⟩))
   refine wpS_bind (wpS_mono (wpS_forRange
    (I := fun y c st1 => Sm st st1 ∧ Lo7 a b 1 (a.size - ia + (b.size - ib)) c)
    (Q := fun c st1 => Sm st st1 ∧ (Lo7 a b 1 (a.size - ia + (b.size - ib)) c ∨ Mgd a b c))
    (fun y c st2 _ hy hh => ?_) (fun c st2 hh => ⟨hh.1, .inl hh.2⟩) ⟨S1, .mk L1⟩) (fun c st2 hh => ?_))
   ·clear L1 q' p
    generalize a.size - ia + (b.size - ib) = μ at *
    clear L
    obtain ⟨S2, hh⟩ := hh
    cases hh with | @mk o i' j' g p q' LL => ?_
    refine zaN fun P hP => ?_
    dsimp -zeta only
    extract_lets _ _ _ _ _ _ _ _ _ _ _ _ jp
    have J : ∀ r g, wpS M A E s (jp r g) P st2 := by
     intro r g
     refine wpS_bind (wpS_modify ?_)
     have S3 := S2.trans (⟨rfl, rfl, rfl, rfl⟩ : Sm st2 (SortSt.mk' (kindOf st2) (arrOf st2) (pendingOf st2) g (failedOf st2)))
     have k3 := S3.k.trans hk
     (refine x1_2 (at_mem hb LL.j1) ?_; intro xb eb mb)
     refine wpS_bind (zad eb (wpS_bind (zax hC k3 mb (fun j hj => at_mem ha (Nat.add_lt_of_lt_sub' hj)) (Nat.sub_pos_of_lt LL.ix) fun k1 hk1 => ?_)))
     dsimp -zeta only
     extract_lets _ jp2
     have J2 : ∀ r o2 i2, Lo a b 1 μ o2 i2 j' → wpS M A E s (jp2 r o2 i2) P (SortSt.mk' (kindOf st2) (arrOf st2) (pendingOf st2) g (failedOf st2)) := by
      intro r o2 i2 LL
      refine wpS_bind (zad eb (zaj (fun c6 => wpS_pure (hP _ _ ⟨S3, .inr (.mk (LL.l.b1 eb).done)⟩)) fun c6 => ?_))
      replace LL := LL.b1 eb c6
      obtain ⟨xa, ea, ma⟩ := at_mem ha (i := i2) LL.ix
      refine wpS_bind (zad ea (wpS_bind (zax hC k3 ma (fun j hj => at_mem hb (Nat.add_lt_of_lt_sub' hj)) (Nat.sub_pos_of_lt LL.j1) fun k2 hk2 => ?_)))
      dsimp -zeta only
      extract_lets _ _ jp3
      have J3 : ∀ r o2 j2, Lo a b 2 μ o2 i2 j2 → wpS M A E s (jp3 r o2 j2) P (SortSt.mk' (kindOf st2) (arrOf st2) (pendingOf st2) g (failedOf st2)) := by
       intro r o2 j2 LL
       refine wpS_bind (zad ea (zaj (fun c8 => wpS_pure (hP _ _ ⟨S3, .inr (.mk (LL.l.a1 ea).last)⟩)) fun c8 => ?_))
       have L4 := Lo7.mk (g := g) (p := k1) (q := k2) ((LL.a1 ea c8).weak (k' := 1) (by ktn_no "om") (Nat.le_refl _))
       exact zai (fun _ => wpS_pure (hP _ _ ⟨S3, .inl L4⟩)) fun _ => wpS_pure (hP _ _ ⟨S3, L4⟩)
      exact zai (fun _ => zaj (fun c9 => wpS_pure (hP _ _ ⟨S3, .inr (.mk (LL.l.bk k2).done)⟩)) fun c9 => J3 () _ _ (LL.bk hk2 c9)) fun _ => J3 () _ _ LL
     exact zai (fun _ => zaj (fun c4 => wpS_pure (hP _ _ ⟨S3, .inr (.mk (LL.l.ak k1).last)⟩)) fun c4 => zaj (fun c5 => wpS_pure (hP _ _ ⟨S3, .inr (.mk (LL.l.ak k1).done)⟩)) fun c5 => J2 () _ _ (LL.ak hk1 c4 c5)) fun _ => J2 () _ _ LL
    exact zai (fun _ => J () (g - 1)) fun _ => J () g
   ·obtain ⟨S2, hh | hh⟩ := hh
    ·cases hh with | @mk o i j g p q' L1 => exact wpS_bind (wpS_modify (wpS_pure ⟨S2.trans ⟨rfl, rfl, rfl, rfl⟩, .mk (o := o) (i := i) (j := j) (L.back L1)⟩))
    ·cases hh with | @mk r rest hr => exact wpS_pure ⟨S2, .mk hr⟩
 ·obtain ⟨S1, hh⟩ := hh
  cases hh with | @mk out ia ib g L => exact absurd L.m (Nat.not_le_of_lt (Nat.lt_of_lt_of_le (Nat.add_lt_add_left (Nat.add_lt_add L.ix L.j1) _) (Nat.add_le_add_right (Nat.le_trans (Nat.le_max_right 0 _) (Nat.le_succ _)) _)))
 ·obtain ⟨S1, hh⟩ := hh
  cases hh with | @mk r rest hr => exact wpS_pure (q r _ hr S1)
end
open PySem PySem.Calls PyProof.Rows
noncomputable def LeftH (a b : Array Keyed) (out : Array Keyed) (na nb : Nat) : Prop := (out.toList ++ (a.toList.take na ++ b.toList.take nb)).Perm (a.toList ++ b.toList)
section
variable {M : Model} {A : Around} {E : Value → Shared → Prop} {s : Shared} {a₀ : Array Keyed} {κ : SortKind} {pn : Array (Nat × Nat × Nat)}
theorem zeT {a : Array Keyed} {i : Nat} {x : Keyed} (e : a[i]? = some x) : a.toList.take (i + 1) = a.toList.take i ++ [x] := by
 have h : a.toList[i]? = some x := by rw [Array.getElem?_toList]; exact e
 rw [List.take_add_one, h]; rfl
theorem LeftH.a1 {a b out : Array Keyed} {na nb : Nat} {x : Keyed} (h : LeftH a b out (na + 1) nb) (e : a[na]? = some x) : LeftH a b (out.push x) na nb := by
 unfold LeftH at *
 rw [zeT e] at h
 refine List.Perm.trans ?_ h
 rw [Array.toList_push, List.append_assoc, List.append_assoc]
 refine List.Perm.append_left _ ?_
 exact (List.perm_middle (a := x) (l₁ := a.toList.take na) (l₂ := b.toList.take nb)).symm
theorem LeftH.b1 {a b out : Array Keyed} {na nb : Nat} {x : Keyed} (h : LeftH a b out na (nb + 1)) (e : b[nb]? = some x) : LeftH a b (out.push x) na nb := by
 unfold LeftH at *
 rw [zeT e] at h
 refine List.Perm.trans ?_ h
 rw [Array.toList_push, List.append_assoc]
 refine List.Perm.append_left _ ?_
 rw [← List.append_assoc (a.toList.take na)]
 exact List.perm_append_comm (l₁ := [x]) (l₂ := a.toList.take na ++ b.toList.take nb)
theorem LeftH.a2 {a b out : Array Keyed} {na nb : Nat} {x : Keyed} (h : LeftH a b out na nb) (hn : 1 ≤ na) (e : a[na - 1]? = some x) : LeftH a b (out.push x) (na - 1) nb := by
 obtain ⟨k, rfl⟩ : ∃ k, na = k + 1 := ⟨na - 1, (Nat.sub_add_cancel hn).symm⟩
 exact h.a1 e
theorem LeftH.b2 {a b out : Array Keyed} {na nb : Nat} {x : Keyed} (h : LeftH a b out na nb) (hn : 1 ≤ nb) (e : b[nb - 1]? = some x) : LeftH a b (out.push x) na (nb - 1) := by
 obtain ⟨k, rfl⟩ : ∃ k, nb = k + 1 := ⟨nb - 1, (Nat.sub_add_cancel hn).symm⟩
 exact h.b1 e
theorem zeH (a : Array Keyed) {i n : Nat} (h : i ≤ n) : a.toList.take n = a.toList.take i ++ (a.extract i n).toList := by
 rw [Array.toList_extract, List.extract_eq_drop_take]
 have : n = i + (n - i) := (Nat.add_sub_cancel' h).symm
 conv => lhs; rw [this, List.take_add]
theorem zeN (a : Array Keyed) (n : Nat) : (a.extract 0 n).toList = a.toList.take n := by
 rw [Array.toList_extract, List.extract_eq_drop_take]; rfl
theorem LeftH.ak {a b out : Array Keyed} {na nb i : Nat} (hi : i ≤ na) (h : LeftH a b out na nb) : LeftH a b (out ++ (a.extract i na).reverse) i nb := by
 unfold LeftH at *
 rw [zeH a hi] at h
 refine List.Perm.trans ?_ h
 rw [Array.toList_append, Array.toList_reverse, List.append_assoc]
 refine List.Perm.append_left _ ?_
 refine ((List.reverse_perm _).append_right _).trans ?_
 rw [← List.append_assoc]
 exact List.perm_append_comm.append_right _
theorem LeftH.bk {a b out : Array Keyed} {na nb i : Nat} (hi : i ≤ nb) (h : LeftH a b out na nb) : LeftH a b (out ++ (b.extract i nb).reverse) na i := by
 unfold LeftH at *
 rw [zeH b hi] at h
 refine List.Perm.trans ?_ h
 rw [Array.toList_append, Array.toList_reverse, List.append_assoc]
 refine List.Perm.append_left _ ?_
 refine ((List.reverse_perm _).append_right _).trans ?_
 rw [← List.append_assoc (a.toList.take na)]
 exact List.perm_append_comm
theorem LeftH.done {a b out : Array Keyed} {na nb : Nat} (h : LeftH a b out na nb) : (a.extract 0 na ++ b.extract 0 nb ++ out.reverse).toList.Perm (a.toList ++ b.toList) := by
 unfold LeftH at h
 rw [Array.toList_append, Array.toList_append, zeN, zeN, Array.toList_reverse]
 exact (((List.reverse_perm _).append_left _).trans List.perm_append_comm).trans h
theorem LeftH.first {a b out : Array Keyed} {na nb : Nat} (h : LeftH a b out na nb) : (b.extract 0 nb ++ a.extract 0 na ++ out.reverse).toList.Perm (a.toList ++ b.toList) := by
 refine List.Perm.trans ?_ h.done
 rw [Array.toList_append, Array.toList_append, Array.toList_append, Array.toList_append]
 exact List.perm_append_comm.append_right _
structure Hi (a b : Array Keyed) (k n : Nat) (o : Array Keyed) (i j : Nat) : Prop where
 l : LeftH a b o i j
 ia : i ≤ a.size
 jb : j ≤ b.size
 i1 : 1 ≤ i
 j1 : 2 ≤ j
 m : k + i + j ≤ n
theorem Hi.weak {a b o : Array Keyed} {k k' n i j : Nat} (h : Hi a b k n o i j) (e : k' ≤ k) : Hi a b k' n o i j := ⟨h.l, h.ia, h.jb, h.i1, h.j1, Nat.le_trans (Nat.add_le_add_right (Nat.add_le_add_right e i) j) h.m⟩
theorem Hi.a2 {a b o : Array Keyed} {k n i j : Nat} {x : Keyed} (h : Hi a b k n o i j) (e : a[i - 1]? = some x) (c : i - 1 ≠ 0) : Hi a b (k + 1) n (o.push x) (i - 1) j :=
 ⟨h.l.a2 h.i1 e, Nat.le_trans (Nat.sub_le i 1) h.ia, h.jb, Nat.pos_of_ne_zero c, h.j1, by rw [Nat.add_assoc k 1, Nat.add_sub_cancel' h.i1]; exact h.m⟩
theorem Hi.b2 {a b o : Array Keyed} {k n i j : Nat} {x : Keyed} (h : Hi a b k n o i j) (e : b[j - 1]? = some x) (c : j - 1 ≠ 1) : Hi a b (k + 1) n (o.push x) i (j - 1) :=
 ⟨h.l.b2 (Nat.le_of_succ_le h.j1) e, h.ia, Nat.le_trans (Nat.sub_le _ _) h.jb, h.i1, Nat.lt_of_le_of_ne (Nat.pred_le_pred h.j1) (Ne.symm c), by rw [Nat.add_right_comm k 1, Nat.add_assoc _ 1, Nat.add_sub_cancel' (Nat.le_of_succ_le h.j1)]; exact h.m⟩
theorem Hi.ak {a b o : Array Keyed} {k n i j d : Nat} (h : Hi a b k n o i j) (hd : d ≤ i) (c : d ≠ 0) : Hi a b k n (o ++ (a.extract d i).reverse) d j :=
 ⟨h.l.ak hd, Nat.le_trans hd h.ia, h.jb, Nat.pos_of_ne_zero c, h.j1, Nat.le_trans (Nat.add_le_add_right (Nat.add_le_add_left hd k) j) h.m⟩
theorem Hi.bk {a b o : Array Keyed} {k n i j d : Nat} (h : Hi a b k n o i j) (hd : d ≤ j) (c : d ≠ 1) (c' : d ≠ 0) : Hi a b k n (o ++ (b.extract d j).reverse) i d :=
 ⟨h.l.bk hd, h.ia, Nat.le_trans hd h.jb, h.i1, Nat.lt_of_le_of_ne (Nat.pos_of_ne_zero c') (Ne.symm c), Nat.le_trans (Nat.add_le_add_left hd _) h.m⟩
theorem Hi.jx {a b o : Array Keyed} {k n i j : Nat} (h : Hi a b k n o i j) : j - 1 < b.size := Nat.sub_one_lt_of_le (Nat.lt_of_lt_of_le Nat.two_pos h.j1) h.jb
theorem Hi.ix {a b o : Array Keyed} {k n i j : Nat} (h : Hi a b k n o i j) : i - 1 < a.size := Nat.sub_one_lt_of_le h.i1 h.ia
theorem Hi.jj {a b o : Array Keyed} {k n i j : Nat} (h : Hi a b k n o i j) : j - 1 < j := Nat.sub_lt (Nat.lt_of_lt_of_le Nat.two_pos h.j1) Nat.one_pos
theorem Hi.j0 {a b o : Array Keyed} {k n i j : Nat} (h : Hi a b k n o i j) : 1 ≤ j := Nat.le_of_succ_le h.j1
theorem Hi.back {a b o o' : Array Keyed} {k n i j i' j' : Nat} (L : Hi a b k n o i j) (L1 : Hi a b 1 (i + j) o' i' j') : Hi a b (k + 1) n o' i' j' := ⟨L1.l, L1.ia, L1.jb, L1.i1, L1.j1, by rw [Nat.add_assoc k 1, Nat.add_assoc k]; exact Nat.le_trans (Nat.add_le_add_left L1.m k) (Nat.le_trans (Nat.le_of_eq (Nat.add_assoc k i j).symm) L.m)⟩
theorem hi_no {S i j : Nat} (h : 1 ≤ i) : ¬ max 0 S + 1 + i + j ≤ S := fun k => absurd (Nat.le_trans (Nat.le_trans (Nat.succ_le_succ (Nat.le_max_right 0 S)) (Nat.le_trans (Nat.le_add_right _ i) (Nat.le_add_right _ j))) k) (Nat.lt_irrefl S)
inductive Hi5 (a b : Array Keyed) (k n : Nat) : Option (Array Keyed) × Nat × Nat × Array Keyed × Nat → Prop
 | mk {i j o g} : Hi a b k n o i j → Hi5 a b k n (none, i, j, o, g)
inductive Hi6 (a b : Array Keyed) (k n : Nat) : Option (Array Keyed) × Nat × Nat × Array Keyed × Nat × Nat → Prop
 | mk {i j o p q} : Hi a b k n o i j → Hi6 a b k n (none, i, j, o, p, q)
inductive Hi7 (a b : Array Keyed) (k n : Nat) : Option (Array Keyed) × Nat × Nat × Array Keyed × Nat × Nat × Nat → Prop
 | mk {i j o g p q} : Hi a b k n o i j → Hi7 a b k n (none, i, j, o, g, p, q)
theorem zdX {a b : Array Keyed} {st : SortSt} {Q : Array Keyed → SortSt → Prop} (hC : Cmp M A E s κ a₀) (hk : kindOf st = κ) (ha : ∀ x ∈ a, x ∈ a₀) (hb : ∀ x ∈ b, x ∈ a₀) (na : 0 < a.size) (nb : 0 < b.size)
  (q : ∀ r st', r.toList.Perm (a.toList ++ b.toList) → Sm st st' → Q r st') : wpS M A E s (mergeHi' a b) Q st := by
 refine wpS_bind (wpS_lift (wpAny_rule ⟨rfl, ?_⟩))
 obtain ⟨y0, e0, m0⟩ := at_mem ha (i := a.size - 1) (Nat.sub_lt na Nat.one_pos)
 refine wpS_bind (zad e0 ?_)
 have L0 : LeftH a b #[y0] (a.size - 1) b.size := by
  have : LeftH a b #[] (a.size - 1 + 1) b.size := by
   unfold LeftH
   rw [List.take_of_length_le (Nat.le_of_eq (Nat.sub_add_cancel na).symm), List.take_of_length_le (l := b.toList) (i := b.size) (Nat.le_refl _)]
   exact List.Perm.refl _
  exact this.a1 e0
 refine zaj (fun c1 => wpS_pure (q _ _ L0.done (Sm.refl _))) fun c1 => ?_
 refine zaj (fun c2 => wpS_pure (q _ _ L0.first (Sm.refl _))) fun c2 => ?_
 refine wpS_bind (wpS_get ?_)
 refine wpS_bind (wpS_mono (wpS_forRange
  (I := fun x c st' => Sm st st' ∧ Hi5 a b (x + 1) (a.size + b.size) c)
  (Q := fun c st' => Sm st st' ∧ Mgd a b c) (fun x c st' _ hx hh => ?_) (fun c st' hh => ?_) ⟨Sm.refl st, .mk ⟨L0, Nat.sub_le _ _, Nat.le_refl _, Nat.pos_of_ne_zero c1, Nat.lt_of_le_of_ne nb (Ne.symm c2), by rw [Nat.zero_add, Nat.add_sub_cancel' na]; exact Nat.le_refl _⟩⟩) (fun c st' hh => ?_))
 ·obtain ⟨S1, hh⟩ := hh
  cases hh with | @mk ia ib out g L => ?_
  have kx := S1.k.trans hk
  refine wpS_bind (wpS_mono (wpS_forRange
   (I := fun y c st1 => st' = st1 ∧ Hi6 a b y (ia + ib) c)
   (Q := fun c st1 => st' = st1 ∧ (Hi6 a b 1 (ia + ib) c ∨ Mgd a b c))
   (fun y c st1 _ hy hh => ?_) (fun c st1 hh => ?_) ⟨rfl, .mk ⟨L.l, L.ia, L.jb, L.i1, L.j1, by rw [Nat.zero_add]; exact Nat.le_refl _⟩⟩) (fun c st1 hh => ?_))
  ·obtain ⟨rfl, hh⟩ := hh
   cases hh with | @mk i j o p q' L1 => ?_
   refine zaN fun P hP => ?_
   obtain ⟨xb, eb, mb⟩ := at_mem hb (i := j - 1) L1.jx
   obtain ⟨xa, ea, ma⟩ := at_mem ha (i := i - 1) L1.ix
   refine wpS_bind (zad eb (wpS_bind (zad ea (wpS_bind (hC xb xa mb ma _ _ kx fun w => ?_)))))
   cases w
   ·refine wpS_bind (zad eb (zaj (fun c3 => wpS_pure (hP _ _ ⟨rfl, .inr (.mk (L1.l.b2 L1.j0 eb).first)⟩)) fun c3 => ?_))
    have L2 := L1.b2 eb c3
    exact zai (fun _ => wpS_pure (hP _ _ ⟨rfl, .inl (.mk (L2.weak (by ktn_no "om")))⟩)) fun _ => wpS_pure (hP _ _ ⟨rfl, .mk L2⟩)
   ·refine wpS_bind (zad ea (zaj (fun c3 => wpS_pure (hP _ _ ⟨rfl, .inr (.mk (L1.l.a2 L1.i1 ea).done)⟩)) fun c3 => ?_))
    have L2 := L1.a2 ea c3
    exact zai (fun _ => wpS_pure (hP _ _ ⟨rfl, .inl (.mk (L2.weak (by ktn_no "om")))⟩)) fun _ => wpS_pure (hP _ _ ⟨rfl, .mk L2⟩)
  ·obtain ⟨rfl, hh⟩ := hh
   cases hh with | @mk i j o p q' L1 => exact ⟨rfl, .inl (.mk (L1.weak (Nat.le_trans (Nat.le_trans na (Nat.le_add_right _ _)) (Nat.le_max_right _ _))))⟩
  ·obtain ⟨rfl, hh | hh⟩ := hh
   case inr => cases hh with | @mk r rest hr => exact wpS_pure ⟨S1, .mk hr⟩
   cases hh with | @mk i j o p q' L1 => ?_
   refine wpS_bind (wpS_lift (wpAny_rule ⟨rfl, ?_⟩))
   refine wpS_bind (wpS_mono (wpS_forRange
    (I := fun y c st1 => Sm st st1 ∧ Hi7 a b 1 (ia + ib) c)
    (Q := fun c st1 => Sm st st1 ∧ (Hi7 a b 1 (ia + ib) c ∨ Mgd a b c))
    (fun y c st2 _ hy hh => ?_) (fun c st2 hh => ⟨hh.1, .inl hh.2⟩) ⟨S1, .mk L1⟩) (fun c st2 hh => ?_))
   ·clear L1 q' p L kx
    generalize ia + ib = μ at *
    obtain ⟨S2, hh⟩ := hh
    cases hh with | @mk i' j' o g p q' LL => ?_
    refine zaN fun P hP => ?_
    dsimp -zeta only
    extract_lets _ _ _ _ _ _ _ _ _ _ _ _ jp
    have J : ∀ r g, wpS M A E s (jp r g) P st2 := by
     intro r g
     refine wpS_bind (wpS_modify ?_)
     have S3 := S2.trans (⟨rfl, rfl, rfl, rfl⟩ : Sm st2 (SortSt.mk' (kindOf st2) (arrOf st2) (pendingOf st2) g (failedOf st2)))
     have k3 := S3.k.trans hk
     obtain ⟨xb, eb, mb⟩ := at_mem hb (i := j' - 1) LL.jx
     refine wpS_bind (zad eb (wpS_bind (zax hC k3 mb (fun j hj => by rw [Nat.zero_add]; exact at_mem ha (Nat.lt_of_lt_of_le hj LL.ia)) (Nat.sub_lt LL.i1 Nat.one_pos) fun k1 hk1 => ?_)))
     dsimp -zeta only
     extract_lets _ _ jp2
     have J2 : ∀ r i2 o2, Hi a b 1 μ o2 i2 j' → wpS M A E s (jp2 r i2 o2) P (SortSt.mk' (kindOf st2) (arrOf st2) (pendingOf st2) g (failedOf st2)) := by
      intro r i2 o2 LL
      refine wpS_bind (zad eb (zaj (fun c6 => wpS_pure (hP _ _ ⟨S3, .inr (.mk (LL.l.b2 LL.j0 eb).first)⟩)) fun c6 => ?_))
      replace LL := LL.b2 eb c6
      obtain ⟨xa, ea, ma⟩ := at_mem ha (i := i2 - 1) LL.ix
      refine wpS_bind (zad ea (wpS_bind (zax hC k3 ma (fun j hj => by rw [Nat.zero_add]; exact at_mem hb (Nat.lt_of_lt_of_le hj LL.jb)) LL.jj fun k2 hk2 => ?_)))
      dsimp -zeta only
      extract_lets _ _ _ jp3
      have J3 : ∀ r j2 o2, Hi a b 2 μ o2 i2 j2 → wpS M A E s (jp3 r j2 o2) P (SortSt.mk' (kindOf st2) (arrOf st2) (pendingOf st2) g (failedOf st2)) := by
       intro r j2 o2 LL
       refine wpS_bind (zad ea (zaj (fun c8 => wpS_pure (hP _ _ ⟨S3, .inr (.mk (LL.l.a2 LL.i1 ea).done)⟩)) fun c8 => ?_))
       have L4 := Hi7.mk (g := g) (p := i' - k1) (q := j' - 1 - k2) ((LL.a2 ea c8).weak (k' := 1) (by ktn_no "om"))
       exact zai (fun _ => wpS_pure (hP _ _ ⟨S3, .inl L4⟩)) fun _ => wpS_pure (hP _ _ ⟨S3, L4⟩)
      exact zai (fun _ => zaj (fun c9 => wpS_pure (hP _ _ ⟨S3, .inr (.mk (LL.l.bk hk2).first)⟩)) fun c9 => zaj (fun c10 => wpS_pure (hP _ _ ⟨S3, .inr (.mk (LL.l.bk hk2).done)⟩)) fun c10 => J3 () _ _ (LL.bk hk2 c9 c10)) fun _ => J3 () _ _ LL
     exact zai (fun _ => zaj (fun c4 => wpS_pure (hP _ _ ⟨S3, .inr (.mk (LL.l.ak hk1).done)⟩)) fun c4 => J2 () _ _ (LL.ak hk1 c4)) fun _ => J2 () _ _ LL
    exact zai (fun _ => J () (g - 1)) fun _ => J () g
   ·obtain ⟨S2, hh | hh⟩ := hh
    ·cases hh with | @mk i j o g p q' L1 => exact wpS_bind (wpS_modify (wpS_pure ⟨S2.trans ⟨rfl, rfl, rfl, rfl⟩, .mk (o := o) (i := i) (j := j) (L.back L1)⟩))
    ·cases hh with | @mk r rest hr => exact wpS_pure ⟨S2, .mk hr⟩
 ·obtain ⟨S1, hh⟩ := hh
  cases hh with | @mk ia ib out g L => exact absurd L.m (hi_no L.i1)
 ·obtain ⟨S1, hh⟩ := hh
  cases hh with | @mk r rest hr => exact wpS_pure (q r _ hr S1)
end
open PySem PySem.Calls PyProof.Rows
theorem zfn (sa : Nat) : ∀ (m : List Keyed) (k : Nat) (xs : Array Keyed), sa + k + m.length ≤ xs.size →
  ((m.zipIdx k).foldl (fun a (p : Keyed × Nat) => a.setIfInBounds (sa + p.2) p.1) xs).toList = xs.toList.take (sa + k) ++ m ++ xs.toList.drop (sa + k + m.length) := by
 intro m
 induction m with
 | nil =>
  intro k xs h
  simp
 | cons x m ih =>
  intro k xs h
  have e : sa + (k + 1) + m.length = sa + k + (m.length + 1) := Nat.succ_add (sa + k) m.length
  rw [List.zipIdx_cons, List.foldl_cons, ih (k + 1) _ (by rw [Array.size_setIfInBounds]; exact Nat.le_trans (Nat.le_of_eq e) h)]
  have hl : sa + k < xs.toList.length := Nat.lt_of_lt_of_le (Nat.lt_add_of_pos_right (Nat.succ_pos _)) h
  rw [Array.toList_setIfInBounds, show sa + (k + 1) = sa + k + 1 from rfl, List.take_add_one, List.getElem?_set_self hl, List.take_set_of_le (Nat.le_refl _), List.drop_set_of_lt (Nat.lt_of_lt_of_le (Nat.lt_succ_self _) (Nat.le_add_right _ _))]
  simp only [List.length_cons]
  rw [show sa + k + 1 + m.length = sa + k + (m.length + 1) from e]
  simp
theorem ze6 {sa n : Nat} {m : List Keyed} {xs : Array Keyed} (h : sa + n ≤ xs.size) (hm : m.Perm (xs.extract sa (sa + n)).toList) :
  (m.zipIdx.foldl (fun a (p : Keyed × Nat) => a.setIfInBounds (sa + p.2) p.1) xs).Perm xs := by
 have hl : m.length = n := by
  rw [hm.length_eq, Array.length_toList, Array.size_extract, Nat.min_eq_left h, Nat.add_sub_cancel_left]
 rw [Array.perm_iff_toList_perm, zfn sa m 0 xs (by rw [hl]; exact h), Nat.add_zero, hl]
 have e : xs.toList = xs.toList.take sa ++ (xs.extract sa (sa + n)).toList ++ xs.toList.drop (sa + n) := by
  rw [List.append_assoc, ← zc6 xs sa n, List.take_append_drop]
 conv => rhs; rw [e]
 exact (hm.append_left _).append_right _
noncomputable def Chn : Nat → List (Nat × Nat × Nat) → Nat → Prop
 | o, [], e => o = e
 | o, r :: l, e => r.1 = o ∧ 1 ≤ r.2.1 ∧ Chn (o + r.2.1) l e
theorem Chn.le : ∀ {l : List (Nat × Nat × Nat)} {o e : Nat}, Chn o l e → o ≤ e
 | [], _, _, h => Nat.le_of_eq h
 | _ :: _, _, _, h => Nat.le_trans (Nat.le_add_right _ _) h.2.2.le
theorem Chn.at : ∀ {l : List (Nat × Nat × Nat)} {o e i sa na pw sb nb p2 : Nat}, Chn o l e → l[i]? = some (sa, na, pw) → l[i + 1]? = some (sb, nb, p2) →
  sa + na = sb ∧ sb + nb ≤ e ∧ 1 ≤ na ∧ 1 ≤ nb ∧ Chn o ((l.set i (sa, na + nb, pw)).eraseIdx (i + 1)) e
 | [], _, _, _, _, _, _, _, _, _, _, h, _ => by simp at h
 | [r], _, _, i, _, _, _, _, _, _, _, _, h => by simp at h
 | r :: t :: l, o, e, 0, sa, na, pw, sb, nb, p2, hc, h1, h2 => by
  simp at h1 h2
  subst h1 h2
  (refine x0_5 (hc) ?_; try clear hc; intro a1 a2 b1 b2 b3)
  have hle := b3.le
  dsimp only at *
  refine ⟨by rw [a1, b1], by rw [b1]; exact hle, a2, b2, ?_⟩
  show Chn o ((sa, na + nb, pw) :: l) e
  exact ⟨a1, Nat.le_trans a2 (Nat.le_add_right _ _), by rw [show o + (sa, na + nb, pw).2.1 = o + na + nb from (Nat.add_assoc o na nb).symm]; exact b3⟩
 | r :: t :: l, o, e, i + 1, sa, na, pw, sb, nb, p2, hc, h1, h2 => by
  (refine x0_3 (hc) ?_; try clear hc; intro a1 a2 a3)
  (refine x0_5 (Chn.at a3 (by simpa using h1) (by simpa using h2)) ?_; intro b1 b2 b3 b4 b5)
  exact ⟨b1, b2, b3, b4, a1, a2, b5⟩
theorem Chn.snoc : ∀ {l : List (Nat × Nat × Nat)} {o e n p : Nat}, Chn o l e → 1 ≤ n → Chn o (l ++ [(e, n, p)]) (e + n)
 | [], o, e, n, p, h, hn => by
  have h : o = e := h
  subst h
  exact ⟨rfl, hn, rfl⟩
 | _ :: _, _, _, _, _, h, hn => ⟨h.1, h.2.1, h.2.2.snoc hn⟩
theorem Chn.mod : ∀ {l : List (Nat × Nat × Nat)} {o e i : Nat} (pw : Nat), Chn o l e → Chn o (l.modify i fun r => (r.1, r.2.1, pw)) e
 | [], _, _, i, pw, h => by cases i <;> exact h
 | r :: l, o, e, 0, pw, h => ⟨h.1, h.2.1, h.2.2⟩
 | r :: l, o, e, i + 1, pw, h => ⟨h.1, h.2.1, h.2.2.mod pw⟩
theorem ite_le {c : Prop} [Decidable c] {a b n : Nat} (h1 : a ≤ n) (h2 : b ≤ n) : (if c then a else b) ≤ n := by split <;> assumption
theorem zb3 (pn : Array (Nat × Nat × Nat)) (i : Nat) (v : Nat × Nat × Nat) : ((pn.setIfInBounds i v).eraseIdxIfInBounds (i + 1)).toList = (pn.toList.set i v).eraseIdx (i + 1) := by
 obtain ⟨l⟩ := pn
 simp [List.setIfInBounds_toArray, List.eraseIdxIfInBounds_toArray]
section
variable {M : Model} {A : Around} {E : Value → Shared → Prop} {s : Shared} {a₀ : Array Keyed} {κ : SortKind} {pn : Array (Nat × Nat × Nat)}
theorem wpS_set {σ : Type} {M : Model} {st st' : σ} {Q : PUnit → σ → Prop} (h : Q ⟨⟩ st') : wpS M A E s (set st' : StateT σ Sem PUnit) Q st := by
 unfold wpS; rw [StateT.run_set]; exact wpAny_pure ⟨rfl, h⟩
section
variable {sa na sb nb nb' N k j i lo n m : Nat}
theorem mg1 (c2 : sb + nb ≤ N) (c4 : 1 ≤ nb) : sb < N := Nat.lt_of_lt_of_le (Nat.lt_add_of_pos_right c4) c2
theorem mg2 (c1 : sa + na = sb) (c2 : sb + nb ≤ N) (hj : j < na) : sa + j < N := Nat.lt_of_lt_of_le (Nat.add_lt_add_left hj sa) (Nat.le_trans (Nat.le_of_eq c1) (Nat.le_trans (Nat.le_add_right _ _) c2))
theorem mg6 (c1 : sa + na = sb) (hk : k ≤ na) : sa + k + (na - k) = sb := by rw [Nat.add_assoc, Nat.add_sub_cancel' hk, c1]
theorem mg3 (c1 : sa + na = sb) (c2 : sb + nb ≤ N) (hk : k ≤ na) (c5 : ¬ na - k = 0) (c4 : 1 ≤ nb) : sa + k + (na - k) - 1 < N := by rw [mg6 c1 hk]; exact Nat.lt_of_le_of_lt (Nat.sub_le _ _) (mg1 c2 c4)
theorem mg4 (c2 : sb + nb ≤ N) (hj : j < nb) : sb + j < N := Nat.lt_of_lt_of_le (Nat.add_lt_add_left hj sb) c2
theorem mg5 (c1 : sa + na = sb) (c2 : sb + nb ≤ N) (hk : k ≤ na) (hnb : nb' ≤ nb) : sa + k + (na - k + nb') ≤ N := by rw [← Nat.add_assoc, mg6 c1 hk]; exact Nat.le_trans (Nat.add_le_add_left hnb sb) c2
theorem mg7 (c1 : sa + na = sb) (hk : k ≤ na) : sb - (sa + k) = na - k := by rw [← mg6 c1 hk, Nat.add_sub_cancel_left]
theorem mg8 (c1 : sa + na = sb) (c2 : sb + nb ≤ N) (hk : k ≤ na) (c5 : ¬ na - k = 0) : 0 < min sb N - (sa + k) := by rw [Nat.min_eq_left (Nat.le_trans (Nat.le_add_right _ _) c2), mg7 c1 hk]; exact Nat.pos_of_ne_zero c5
theorem mg9 (c2 : sb + nb ≤ N) (hnb : nb' ≤ nb) (c6 : ¬ nb' = 0) : 0 < min (sb + nb') N - sb := by rw [Nat.min_eq_left (Nat.le_trans (Nat.add_le_add_left hnb sb) c2), Nat.add_sub_cancel_left]; exact Nat.pos_of_ne_zero c6
theorem rn1 (h : n > 1) : n - 2 + 1 < n := Nat.le_of_eq (Nat.sub_add_cancel h)
theorem rn2 (h : lo ≤ N) : lo + min (N - lo) m ≤ N := Nat.le_trans (Nat.add_le_add_left (Nat.min_le_left _ _) lo) (Nat.le_of_eq (Nat.add_sub_cancel' h))
theorem rn3 (h : ¬ lo ≥ N) (h1 : 1 ≤ n) (h2 : n < m) : 1 ≤ min (N - lo) m := Nat.le_min.mpr ⟨Nat.sub_pos_of_lt (Nat.lt_of_not_le h), Nat.le_of_lt (Nat.lt_of_le_of_lt h1 h2)⟩
theorem rn4 (c : ¬ N ≤ 1) (h : i ≤ N - 2) : i < N := Nat.lt_of_le_of_lt h (Nat.sub_lt (Nat.lt_of_succ_lt (Nat.lt_of_not_le c)) Nat.two_pos)
theorem rn5 (c : ¬ N ≤ 1) (h : i ≤ N - 2) : i + 1 < N := Nat.lt_of_le_of_lt (Nat.succ_le_succ h) (rn1 (Nat.lt_of_not_le c))
end
theorem zcb {st : SortSt} {i sa na pw sb nb p2 : Nat} {Q : Bool → SortSt → Prop} (hC : Cmp M A E s κ a₀) (h : SOk a₀ κ pn st) (e1 : pn[i]? = some (sa, na, pw)) (e2 : pn[i + 1]? = some (sb, nb, p2)) (c1 : sa + na = sb) (c2 : sb + nb ≤ a₀.size) (c3 : 1 ≤ na) (c4 : 1 ≤ nb)
  (q : ∀ st', SOk a₀ κ ((pn.setIfInBounds i (sa, na + nb, pw)).eraseIdxIfInBounds (i + 1)) st' → Q true st') : wpS M A E s (mergeAt' i) Q st := by
 have hs := h.size
 have c2' : sb + nb ≤ (arrOf st).size := by rw [hs]; exact c2
 have am : ∀ x ∈ arrOf st, x ∈ a₀ := fun x hx => h.perm.mem_iff.mp hx
 refine wpS_bind (wpS_get ?_)
 have e1' : (pendingOf st)[i]? = some (sa, na, pw) := by rw [h.pend]; exact e1
 have e2' : (pendingOf st)[i + 1]? = some (sb, nb, p2) := by rw [h.pend]; exact e2
 dsimp -zeta only
 rw [e1', e2']
 dsimp -zeta only
 refine wpS_bind (wpS_set ?_)
 obtain ⟨x0, ex0, mx0⟩ := at_mem am (i := sb) (mg1 c2' c4)
 refine wpS_bind (zad ex0 ?_)
 refine wpS_bind (zax hC h.kind mx0 (fun j hj => at_mem am (mg2 c1 c2' hj)) c3 fun k hk => ?_)
 dsimp -zeta only
 have hq0 : Q true (SortSt.mk' (kindOf st) (arrOf st) (((pendingOf st).setIfInBounds i (sa, na + nb, pw)).eraseIdxIfInBounds (i + 1)) (gallopOf st) (failedOf st)) :=
  q _ ⟨h.perm, h.kind, h.failed, by show ((pendingOf st).setIfInBounds i (sa, na + nb, pw)).eraseIdxIfInBounds (i + 1) = _; rw [h.pend]⟩
 by_cases c5 : na - k = 0
 ·rw [if_pos (by simpa using c5)]
  exact wpS_pure hq0
 rw [if_neg (by simpa using c5)]
 obtain ⟨x1, ex1, mx1⟩ := at_mem am (i := sa + k + (na - k) - 1) (mg3 c1 c2' hk c5 c4)
 refine wpS_bind (zad ex1 ?_)
 refine wpS_bind (zax hC h.kind mx1 (fun j hj => at_mem am (mg4 c2' hj)) (Nat.sub_lt c4 Nat.one_pos) fun nb' hnb => ?_)
 dsimp -zeta only
 by_cases c6 : nb' = 0
 ·rw [if_pos (by simpa using c6)]
  exact wpS_pure hq0
 rw [if_neg (by simpa using c6)]
 have ex : ∀ u v, ∀ x ∈ (arrOf st).extract u v, x ∈ a₀ := fun u v x hx => am x (by rw [Array.mem_def, Array.toList_extract, List.extract_eq_drop_take] at hx; exact Array.mem_def.mpr (List.mem_of_mem_drop (List.mem_of_mem_take hx)))
 extract_lets _ _ jp
 have J : ∀ r st', r.toList.Perm (((arrOf st).extract (sa + k) sb).toList ++ ((arrOf st).extract sb (sb + nb')).toList) → Sm (SortSt.mk' (kindOf st) (arrOf st) (((pendingOf st).setIfInBounds i (sa, na + nb, pw)).eraseIdxIfInBounds (i + 1)) (gallopOf st) (failedOf st)) st' → wpS M A E s (jp r) Q st' := by
  intro r st' hr hsm
  refine wpS_bind (wpS_modify (wpS_bind (wpS_get ?_)))
  have hf : failedOf st' = none := hsm.f.trans h.failed
  have hperm : (r.toList.zipIdx.foldl (fun a (p : Keyed × Nat) => a.setIfInBounds (sa + k + p.2) p.1) (arrOf st')).Perm (arrOf st') := by
   rw [show arrOf st' = arrOf st from hsm.a]
   refine ze6 (n := na - k + nb') (mg5 c1 c2' hk hnb) ?_
   refine hr.trans (List.Perm.of_eq ?_)
   rw [Array.toList_extract, Array.toList_extract, Array.toList_extract, List.extract_eq_drop_take, List.extract_eq_drop_take, List.extract_eq_drop_take, mg7 c1 hk, Nat.add_sub_cancel_left, Nat.add_sub_cancel_left, List.take_add, List.drop_drop, mg6 c1 hk]
  show wpS M A E s (pure (failedOf st').isNone) Q _
  rw [hf]
  exact wpS_pure (q _ ⟨hperm.trans (by rw [show arrOf st' = arrOf st from hsm.a]; exact h.perm), hsm.k.trans h.kind, hf, by rw [show pendingOf _ = _ from hsm.p]; show ((pendingOf st).setIfInBounds i (sa, na + nb, pw)).eraseIdxIfInBounds (i + 1) = _; rw [h.pend]⟩)
 have z1 : 0 < ((arrOf st).extract (sa + k) sb).size := by rw [Array.size_extract]; exact mg8 c1 c2' hk c5
 have z2 : 0 < ((arrOf st).extract sb (sb + nb')).size := by rw [Array.size_extract]; exact mg9 c2' hnb c6
 exact zai (fun _ => wpS_bind (zet hC h.kind (ex _ _) (ex _ _) z1 z2 J)) fun _ => wpS_bind (zdX hC h.kind (ex _ _) (ex _ _) z1 z2 J)
inductive Pnd (a₀ : Array Keyed) (κ : SortKind) (lo : Nat) : Option Unit × PUnit → SortSt → Prop
 | mk {pn st} : SOk a₀ κ pn st → Chn 0 pn.toList lo → Pnd a₀ κ lo (none, ()) st
theorem zg7 {st : SortSt} {Q : Unit → SortSt → Prop} (hC : Cmp M A E s κ a₀) (h : SOk a₀ κ #[] st) (q : ∀ pn st', SOk a₀ κ pn st' → Q () st') : wpS M A E s sortRuns' Q st := by
 rw [sortRuns'_eq]
 refine wpS_bind (wpS_get ?_)
 dsimp -zeta only
 simp -zeta only [h.size]
 refine wpS_bind (wpS_mono (wpS_forRange (I := fun x c st' => ∃ pn lo, c = (none, lo) ∧ SOk a₀ κ pn st' ∧ Chn 0 pn.toList lo ∧ lo ≤ a₀.size) (Q := fun c st' => ∃ pn lo, c = (none, lo) ∧ SOk a₀ κ pn st' ∧ Chn 0 pn.toList lo ∧ lo ≤ a₀.size) (fun x c st' _ hx hh => ?_) (fun _ _ z => z) ⟨#[], 0, rfl, h, rfl, Nat.zero_le _⟩) (fun c st' hh => ?_))
 ·(refine x2_4 (hh) ?_; try clear hh; intro pn lo eqX2 h1 hc hlo; subst eqX2)
  dsimp -zeta only
  by_cases c1 : lo ≥ a₀.size
  ·rw [if_pos c1]
   exact wpS_pure ⟨pn, lo, rfl, h1, hc, hlo⟩
  rw [if_neg c1]
  refine zaN fun P hP => ?_
  refine wpS_bind (zgT hC h1 (by first | exact Nat.le_of_eq (Nat.add_sub_cancel' hlo) | exact Nat.sub_pos_of_lt (Nat.lt_of_not_le c1)) (by first | exact Nat.le_of_eq (Nat.add_sub_cancel' hlo) | exact Nat.sub_pos_of_lt (Nat.lt_of_not_le c1)) fun n st2 h2 hn1 hn2 => ?_)
  dsimp -zeta only
  extract_lets _ jp
  have J : ∀ r nn st3, SOk a₀ κ pn st3 → 1 ≤ nn → nn ≤ a₀.size - lo → wpS M A E s (jp r nn) P st3 := by
   intro r nn st3 h3 hN1 hN2
   refine wpS_bind (wpS_get ?_)
   cases hb : (pendingOf st3).back? with
   | none =>
    refine wpS_bind (wpS_modify (wpS_pure (hP _ _ ⟨pn.push (lo, nn, 0), lo + nn, rfl, ⟨h3.perm, h3.kind, h3.failed, ?_⟩, ?_, ?_⟩)))
    ·show (pendingOf st3).push _ = _; rw [h3.pend]
    ·rw [Array.toList_push]; exact hc.snoc hN1
    ·exact Nat.add_le_of_le_sub' hlo hN2
   | some r =>
    obtain ⟨s1, n1, p1⟩ := r
    refine wpS_bind (wpS_mono (wpS_forRange (I := fun _ c st' => Pnd a₀ κ lo c st') (Q := fun c st' => Pnd a₀ κ lo c st') (fun y c st4 _ hy hh => ?_) (fun _ _ z => z) (.mk h3 hc)) (fun c st4 hh => ?_))
    ·cases hh with | @mk pn' _ h4 hc' => ?_
     refine zaN fun P' hP' => wpS_bind (wpS_get ?_)
     dsimp only
     cases hp : (if (pendingOf st4).size > 1 then (pendingOf st4)[(pendingOf st4).size - 2]? else none) with
     | none =>
      exact wpS_pure (hP' _ _ (by exact Pnd.mk h4 hc'))
     | some r =>
      obtain ⟨sa, na, older⟩ := r
      dsimp only
      refine zai (fun _ => wpS_pure (hP' _ _ (by exact Pnd.mk h4 hc'))) fun _ => ?_
      rw [h4.pend] at hp ⊢
      have hsz : pn'.size > 1 := by
       by_cases z : pn'.size > 1
       ·exact z
       ·rw [if_neg z] at hp; cases hp
      rw [if_pos hsz] at hp
      obtain ⟨⟨sb, nb, p2⟩, hb2⟩ : ∃ r, pn'[pn'.size - 2 + 1]? = some r := ⟨_, getElem?_pos pn' _ (rn1 hsz)⟩
      obtain ⟨g1, g2, g3, g4, g5⟩ := Chn.at hc' (i := pn'.size - 2) (by rw [Array.getElem?_toList]; exact hp) (by rw [Array.getElem?_toList]; exact hb2)
      refine wpS_bind (zcb hC h4 hp hb2 g1 (Nat.le_trans g2 hlo) g3 g4 fun st5 h5 => ?_)
      rw [if_neg (by decide)]
      exact wpS_pure (hP' _ _ (by exact Pnd.mk h5 (by rw [zb3]; exact g5)))
    ·cases hh with | @mk pn' _ h4 hc' => ?_
     refine wpS_bind (wpS_modify (wpS_bind (wpS_modify (wpS_pure (hP _ _ ⟨_, lo + nn, rfl, ⟨h4.perm, h4.kind, h4.failed, rfl⟩, ?_, Nat.add_le_of_le_sub' hlo hN2⟩)))))
     show Chn 0 (((pendingOf st4).modify _ _).push _).toList _
     rw [h4.pend, Array.toList_push, Array.toList_modify]
     exact (hc'.mod _).snoc hN1
  refine zai (fun hmr => ?_) fun hmr => J () n _ h2 hn1 hn2
  refine wpS_bind (wpS_lift (wpAny_rule ⟨rfl, ?_⟩))
  refine wpS_bind (bin_any hC h2 (rn2 hlo) fun st3 h3 => ?_)
  rw [if_neg (by decide)]
  exact J () _ _ h3 (rn3 c1 hn1 hmr) (Nat.min_le_left _ _)
 ·(refine x2_4 (hh) ?_; try clear hh; intro pn lo eqX2 h1 hc hlo; subst eqX2)
  dsimp -zeta only
  refine wpS_bind (wpS_mono (wpS_forRange (I := fun _ c st' => ∃ pn, c = (none, ()) ∧ SOk a₀ κ pn st' ∧ Chn 0 pn.toList lo) (Q := fun c st' => ∃ pn, c = (none, ()) ∧ SOk a₀ κ pn st' ∧ Chn 0 pn.toList lo) (fun y c st4 _ hy hh => ?_) (fun _ _ z => z) ⟨pn, rfl, h1, hc⟩) (fun c st4 hh => ?_))
  ·(refine x1_3 (hh) ?_; try clear hh; intro pn' eqX1 h4 hc'; subst eqX1)
   refine wpS_bind (wpS_get ?_)
   rw [h4.pend]
   by_cases c1 : pn'.size ≤ 1
   ·rw [if_pos c1]
    exact wpS_pure ⟨pn', rfl, h4, hc'⟩
   rw [if_neg c1]
   have hm : ∀ (i : Nat) (Q' : Bool → SortSt → Prop), i ≤ pn'.size - 2 → (∀ st5 pn5, SOk a₀ κ pn5 st5 → Chn 0 pn5.toList lo → Q' true st5) → wpS M A E s (mergeAt' i) Q' st4 := fun i Q' hi hq => by
    obtain ⟨⟨sa, na, pw⟩, ha2⟩ : ∃ r, pn'[i]? = some r := ⟨_, getElem?_pos pn' i (rn4 c1 hi)⟩
    obtain ⟨⟨sb, nb, p2⟩, hb2⟩ : ∃ r, pn'[i + 1]? = some r := ⟨_, getElem?_pos pn' (i + 1) (rn5 c1 hi)⟩
    obtain ⟨g1, g2, g3, g4, g5⟩ := Chn.at hc' (i := i) (by rw [Array.getElem?_toList]; exact ha2) (by rw [Array.getElem?_toList]; exact hb2)
    exact zcb hC h4 ha2 hb2 g1 (Nat.le_trans g2 hlo) g3 g4 fun st5 h5 => hq st5 _ h5 (by rw [zb3]; exact g5)
   refine wpS_bind (hm _ _ ?_ fun st5 pn5 h5 g5 => ?_)
   ·exact ite_le (Nat.sub_le _ _) (Nat.le_refl _)
   ·rw [if_neg (by decide)]
    exact wpS_pure ⟨pn5, rfl, h5, g5⟩
  ·(refine x1_3 (hh) ?_; try clear hh; intro pn' eqX1 h4 hc'; subst eqX1)
   exact wpS_pure (q _ _ h4)
end
open PySem PySem.Calls PyProof.Rows
section
variable {prog : Program} {w : World} {A : Around} {E : Value → Shared → Prop} {s : Shared}
theorem zht {vs : List Value} {ss : List PySem.Str} (hS : StrsAre vs ss) : Cmp (model prog w) A E s oneType' (pairsOf vs) := by
 intro x y hx hy st Q hk h
 obtain ⟨x1, x2⟩ := x
 obtain ⟨y1, y2⟩ := y
 have hx' : (x1, x2) ∈ vs.zip vs := by rw [← pairsOf_toList]; exact Array.mem_toList_iff.mpr hx
 have hy' : (y1, y2) ∈ vs.zip vs := by rw [← pairsOf_toList]; exact Array.mem_toList_iff.mpr hy
 (refine x2_1 (hS.all _ (List.of_mem_zip hx').1) ?_; intro a t ea)
 (refine x2_1 (hS.all _ (List.of_mem_zip hy').1) ?_; intro b u eb)
 subst ea eb
 rw [lt'_eq]
 refine wpS_bind (wpS_get ?_)
 rw [hk, keyLt'_oneType]
 refine wpS_bind (wpS_lift (wpAny_attempt (oneLt_str ⟨rfl, ?_⟩)))
 exact wpS_pure (h _)
theorem zck {a : Addr} {vs : List Value} {ss : List PySem.Str} {n : Nat} {P : Fin → Shared → Prop} (hS : StrsAre vs ss) (ho : s.heap.get? a = some (seqObj "list" vs.toArray n)) (hsz : vs.length ≤ 100000)
  (h : ∀ out : Array Value, out.Perm vs.toArray → P (.done (.ret .none)) { s with heap := sortedHeap s.heap a vs out }) :
  wpAny (model prog w) A (Builtin.«list.sort» ⟨[.ref a], []⟩) P E s := by
 rw [list_sort_plain]
 have ha : a < s.heap.objs.size := Heap.lt_size ho
 refine wpAny_bind (listItems_at ho rfl ?_)
 refine wpAny_bind (listUpdate_at ho rfl ?_)
 obtain ⟨e1, ho1⟩ : ∃ e1, (s.heap.update a (Obj.mapSeq fun _ => #[])).get? a = some (seqObj "list" #[] e1) := ⟨_, get?_update_seq ho (fun _ => #[])⟩
 refine wpAny_bind (seqEpoch_at ho1 rfl ?_)
 refine wpAny_bind (wpAny_newTuple ?_)
 refine wpAny_bind (wpAny_newList ?_)
 refine wpAny_holding ?_
 have ho6 : (((s.heap.update a (Obj.mapSeq fun _ => #[])).push (seqObj "tuple" vs.toArray 0)).push (seqObj "list" #[] 0)).get? a = some (seqObj "list" #[] e1) := by
  rw [Heap.get?_push_ne _ _ _ (by rw [size_push', Heap.size_update]; exact Nat.ne_of_lt (Nat.lt_succ_of_lt ha)), Heap.get?_push_ne _ _ _ (by rw [Heap.size_update]; exact Nat.ne_of_lt ha)]
  exact ho1
 show wpAny (model prog w) A _ P E { s with heap := ((s.heap.update a (Obj.mapSeq fun _ => #[])).push (seqObj "tuple" vs.toArray 0)).push (seqObj "list" #[] 0) }
 dsimp only
 have hsz' : vs.toArray.size = vs.length := by simp
 have h5 : (100000 : Nat) ≤ sizeLine := by decide
 have hout : ∀ xs : Array Keyed, xs.Perm (pairsOf vs) → (xs.map (·.2)).Perm vs.toArray := by
  intro xs hp
  have h1 := Array.perm_iff_toList_perm.mp hp
  rw [pairsOf_toList] at h1
  rw [Array.perm_iff_toList_perm, Array.toList_map]
  have h2 := h1.map (·.2)
  rwa [List.map_snd_zip (Nat.le_refl _)] at h2
 by_cases h2 : vs.toArray.size < 2
 ·rw [if_pos h2, if_pos h2]
  refine wpAny_bind (wpAny_pure ?_)
  rw [StateT.run_pure]
  refine wpAny_bind (wpAny_pure ?_)
  dsimp only
  refine wpAny_bind (seqEpoch_at ho6 rfl ?_)
  refine wpAny_bind (listUpdate_at ho6 rfl ?_ (hsz2 := by rw [Array.size_map]; show (pairsOf vs).size ≤ _; rw [pairsOf_size]; ktn_no "o4"))
  simp only [bne_self_eq_false, Bool.false_eq_true, if_false]
  exact wpAny_pure (h _ (hout _ (Array.Perm.refl _)))
 ·rw [if_neg h2, if_neg h2]
  obtain ⟨v₁, v₂, rest, rfl⟩ : ∃ v₁ v₂ rest, vs = v₁ :: v₂ :: rest := by
   clear h ho ho1 ho6 hout hS
   cases vs with
   | nil => exact absurd (Nat.succ_pos 1) h2
   | cons v₁ r =>
    cases r with
    | nil => exact absurd (Nat.lt_succ_self 1) h2
    | cons v₂ rest => exact ⟨v₁, v₂, rest, rfl⟩
  rw [keyKind_strs hS]
  refine wpAny_bind (wpAny_pure ?_)
  refine wpAny_bind (wpAny_mono (zg7 (κ := oneType') (a₀ := pairsOf (v₁ :: v₂ :: rest)) (st := SortSt.mk' oneType' ((v₁ :: v₂ :: rest).toArray.zip (v₁ :: v₂ :: rest).toArray) #[] 7 none)
   (Q := fun _ st' => (arrOf st').Perm (pairsOf (v₁ :: v₂ :: rest)) ∧ failedOf st' = none)
   (zht hS) ⟨Array.Perm.refl _, rfl, rfl, rfl⟩ fun pn st' a1 => ⟨a1.perm, a1.failed⟩) ?_ fun _ _ e => e)
  rintro ⟨⟨⟩, st'⟩ s' ⟨rfl, hp, hf⟩
  dsimp only
  refine wpAny_bind (seqEpoch_at ho6 rfl ?_)
  refine wpAny_bind (listUpdate_at ho6 rfl ?_ (hsz2 := by refine Nat.le_trans (Nat.le_of_eq ((Array.size_map ..).trans (hp.size_eq.trans (pairsOf_size _)))) ?_; ktn_no "o4"))
  rw [hf]
  simp only [bne_self_eq_false, Bool.false_eq_true, if_false]
  exact wpAny_pure (h _ (hout _ hp))
end
open PySem PySem.Calls PyProof.Rows
noncomputable def byTx (w : World) : Bool := w.params.followText "set-order"
noncomputable abbrev keyS (e : Int × Value) : PySem.Str := PyProof.Rows.strOf e.2
inductive SetOb (w : World) (ks : List PySem.Str) : Obj → Prop
 | mk (es : Array (Int × Value)) (ep : Nat) (t : SetTable) (hf : t.fits es.size = true) (hs : ∀ e ∈ es.toList, ∃ x u, e = (hashStr w x, .str x u)) (hk : (es.toList.map keyS).Perm ks) (hl : t.led = !byTx w) (hp : es.size = 0 ∨ t.plain = false) :
   SetOb w ks ⟨.type "set", none, .set es ep t, #[]⟩
section
variable {prog : Program} {w : World} {A : Around} {E : Value → Shared → Prop} {s : Shared}
theorem zhx {es : Array (Int × Value)} (hs : ∀ e ∈ es.toList, ∃ x u, e = (hashStr w x, .str x u)) : ElemsOf (PySem.strKind prog w) es.toList := by
 intro e he
 (refine x2_1 (hs e he) ?_; intro x u eqX2; subst eqX2)
 refine ⟨⟨x, ?_, rfl⟩, rfl⟩
 show Value.isStrOf x (.str x u) = true
 simp [Value.isStrOf]
theorem is_key {k : PySem.Str} {es : Array (Int × Value)} (hs : ∀ e ∈ es.toList, ∃ x u, e = (hashStr w x, .str x u)) {e : Int × Value} (he : e ∈ es.toList) : (PySem.strKind prog w).is k e.2 = decide (keyS e = k) := by
 (refine x2_1 (hs e he) ?_; intro x u eqX2; subst eqX2)
 show Value.isStrOf k (.str x u) = decide (x = k)
 unfold Value.isStrOf
 cases q : decide (x = k) <;> simp_all
theorem zgQ (t : SetTable) (n : Nat) : (t.orStandIn n).led = t.led ∧ ((t.orStandIn n).plain = true → t.plain = true) := by
 unfold SetTable.orStandIn
 split
 ·exact ⟨rfl, id⟩
 ·exact ⟨rfl, fun e => by simp [SetTable.standIn] at e⟩
theorem lay_led (t : SetTable) (es : Array (Int × Value)) (h : Int) (x : Value) : (layNew t es h x).2.1.led = t.led ∧ ((layNew t es h x).2.1.plain = true → t.plain = true) := by
 unfold layNew
 split
 ·exact zgQ _ _
 ·exact ⟨rfl, fun e => by simp [SetTable.standIn] at e⟩
theorem zhc {mask finger moves : Nat} {led plain : Bool} {hs : Array Int} {r : SetTable × Array Nat} (h : SetTable.laid mask finger moves led plain hs = some r) : r.1.led = led ∧ r.1.plain = plain := by
 unfold SetTable.laid at h
 cases ho : SetTable.layClean mask hs with
 | none => rw [ho] at h; cases h
 | some ow => rw [ho] at h; simp at h; rw [← h]; exact ⟨rfl, rfl⟩
theorem zgF (t : SetTable) (es : Array (Int × Value)) (n : Nat) : (relayAll t es n).2.1.led = t.led ∧ ((relayAll t es n).2.1.plain = true → t.plain = true) := by
 unfold relayAll
 split
 ·rename_i t' order ho
  have := zhc ho
  dsimp only at this ⊢
  split
  ·exact ⟨this.1, fun e => this.2 ▸ e⟩
  ·exact ⟨rfl, fun e => by simp [SetTable.standIn] at e⟩
 ·exact ⟨rfl, fun e => by simp [SetTable.standIn] at e⟩
theorem zeZ {h : Heap} {a : Addr} {es : Array (Int × Value)} {ep : Nat} {t : SetTable} (ho : h.get? a = some ⟨.type "set", none, .set es ep t, #[]⟩) (es' : Array (Int × Value)) (t' : SetTable) :
  (h.update a (Obj.putSet es' t')).get? a = some ⟨.type "set", none, .set es' (ep + 1) t', #[]⟩ :=
 Heap.get?_update_self (Obj.putSet es' t') ho rfl
theorem zbG {g : Bool → Sem Unit} (hg : ∀ (b : Bool) (s₁ : Shared) (Q' : Unit → Shared → Prop), Q' () s₁ → wpAny (model prog w) A (g b) Q' E s₁)
  {a : Addr} {es : Array (Int × Value)} {ep : Nat} {t : SetTable} (ho : s.heap.get? a = some ⟨.type "set", none, .set es ep t, #[]⟩)
  {es1 : Array (Int × Value)} {t2 : SetTable} {ks : List PySem.Str} (hs1 : ∀ e ∈ es1.toList, ∃ x u, e = (hashStr w x, .str x u)) (hk1 : (es1.toList.map keyS).Perm ks)
  (hb1 : es1.size < scanBound) (hf2 : t2.fits es1.size = true) (hl2 : t2.led = !byTx w) (hp2 : t2.plain = false) {wasDummy : Bool} {R : Option Bool → Shared → Prop}
  (h : ∀ h' o, Heap.SameBut a s.heap h' → h'.get? a = some o → SetOb w ks o → R (some true) { s with heap := h' }) :
  wpAny (model prog w) A (do
    storeSet a es1 t2
    if (!wasDummy && t2.tooFull) = true then do
      g (relayAll t2 es1 (SetTable.grown es1.size)).2.2
      storeSet a (relayAll t2 es1 (SetTable.grown es1.size)).1 (relayAll t2 es1 (SetTable.grown es1.size)).2.1
      pure (some true)
     else pure (some true)) R E s := by
 refine wpAny_bind (wpAny_storeSet_of ho rfl ?_ (fits_of_scanBound hb1))
 have ho1 := zeZ ho es1 t2
 have hsb1 := Heap.SameBut.update s.heap a (Obj.putSet es1 t2)
 split
 ·have hp := relayAll_perm t2 es1 (SetTable.grown es1.size)
  have hfr := relayAll_fits t2 es1 (SetTable.grown es1.size)
  have hlr := zgF t2 es1 (SetTable.grown es1.size)
  generalize hRl : relayAll t2 es1 (SetTable.grown es1.size) = Rl at hp hfr hlr ⊢
  obtain ⟨es2, t3, gave2⟩ := Rl
  dsimp only at hp hfr hlr ⊢
  have hsz : es2.size = es1.size := by rw [← Array.length_toList, hp.length_eq, Array.length_toList]
  have hb2 : es2.size < scanBound := by rw [hsz]; exact hb1
  refine wpAny_bind (hg _ _ _ ?_)
  refine wpAny_bind (wpAny_storeSet_of ho1 rfl ?_ (fits_of_scanBound hb2))
  refine wpAny_pure (h _ _ (hsb1.trans (Heap.SameBut.update _ a _)) (zeZ ho1 es2 t3) (.mk es2 _ t3 hfr (fun e he => hs1 e (hp.mem_iff.mp he)) ((hp.map keyS).trans hk1) (hlr.1.trans hl2) (.inr ?_)))
  cases q : t3.plain with
  | false => rfl
  | true => have := hlr.2 q; rw [hp2] at this; cases this
 ·exact wpAny_pure (h _ _ hsb1 ho1 (.mk es1 _ t2 hf2 hs1 hk1 hl2 (.inr hp2)))
noncomputable def addK (ks : List PySem.Str) (x : PySem.Str) : List PySem.Str := if x ∈ ks then ks else ks ++ [x]
theorem zd8 {a : Addr} {o : Obj} {ks : List PySem.Str} {x : PySem.Str} {u : Tok} {Q : Bool → Shared → Prop} (ho : s.heap.get? a = some o) (hS : SetOb w ks o) (hroom : ks.length + 1 < scanBound)
  (h : ∀ b h' o', Heap.SameBut a s.heap h' → h'.get? a = some o' → SetOb w (addK ks x) o' → Q b { s with heap := h' }) :
  wpAny (model prog w) A (setAddHashed a (.str x u) (hashStr w x)) Q E s := by
 obtain ⟨es, ep, t, hf, hs, hk, hl, hpl⟩ := hS
 have hn : es.size = ks.length := by rw [← Array.length_toList, ← hk.length_eq, List.length_map]
 have hb1 : es.size + 1 < scanBound := by rw [hn]; exact hroom
 have hel := zhx (prog := prog) hs
 have hkey : (PySem.strKind prog w).is x (.str x u) = true := by show Value.isStrOf x (.str x u) = true; simp [Value.isStrOf]
 unfold setAddHashed setAddHashedIn
 refine wpAny_holding (wpAny_bind (wpAny_setState_of ho rfl hf ?_))
 dsimp only
 rw [byScan_of (knd := PySem.strKind prog w) rfl (by ktn_no "om") hel]
 simp only [↓reduceIte]
 unfold setAddByScan
 refine wpAny_bind ?_
 refine wpAny_bind (wpAny_rule ?_)
 refine wpAny_bind (wpAny_setScan_of (knd := PySem.strKind prog w) hkey ho rfl hf hel ?_)
 cases hr : List.findIdx? (fun e => (PySem.strKind prog w).is x e.2) es.toList with
 | some j =>
  dsimp only
  (refine x1_2 (List.findIdx?_eq_some_iff_getElem.mp hr) ?_; intro hj hpj _)
  have hm : x ∈ ks := by
   refine hk.mem_iff.mp ?_
   rw [is_key hs (List.getElem_mem hj)] at hpj
   rw [← of_decide_eq_true hpj]
   exact List.mem_map_of_mem (List.getElem_mem hj)
  refine wpAny_pure (wpAny_pure ?_)
  have e : s = { s with heap := s.heap } := by cases s; rfl
  rw [e]
  refine h _ _ _ (Heap.SameBut.refl a s.heap) ho (.mk es ep t hf hs ?_ hl hpl)
  unfold addK; rw [if_pos hm]; exact hk
 | none =>
  dsimp only
  have hm : x ∉ ks := by
   intro hm
   (refine x1_2 (List.mem_map.mp (hk.mem_iff.mpr hm)) ?_; intro e he hx)
   have := List.findIdx?_eq_none_iff.mp hr e he
   rw [is_key hs he, decide_eq_true hx] at this
   cases this
  have hgw : ∀ (b : Bool) {s₁ : Shared} {Q' : Unit → Shared → Prop}, Q' () s₁ → wpAny (model prog w) A (match b with | true => rule "set.scan.the-table-gave-way" | false => pure ()) Q' E s₁ :=
   fun b s₁ Q' hq => by cases b <;> first | exact wpAny_pure hq | exact wpAny_rule hq
  have hperm := layNew_perm t es (hashStr w x) (.str x u)
  have hfits := layNew_fits t es (hashStr w x) (.str x u)
  have hled := lay_led t es (hashStr w x) (.str x u)
  generalize hL : layNew t es (hashStr w x) (.str x u) = L at hperm hfits hled ⊢
  obtain ⟨es1, t1, wasDummy, gave⟩ := L
  dsimp only at hperm hfits hled ⊢
  rw [Array.toList_push] at hperm
  have hs1 : ∀ e ∈ es1.toList, ∃ x u, e = (hashStr w x, .str x u) := fun e he => by
   rcases List.mem_append.mp (hperm.mem_iff.mp he) with he | he
   ·exact hs e he
   ·rw [List.mem_singleton] at he; exact ⟨x, u, he⟩
  have hk1 : (es1.toList.map keyS).Perm (addK ks x) := by
   refine (hperm.map keyS).trans ?_
   unfold addK; rw [if_neg hm, List.map_append]
   exact hk.append_right _
  have hb1' : es1.size < scanBound := by rw [← Array.length_toList, hperm.length_eq, List.length_append, Array.length_toList]; simpa using hb1
  refine wpAny_bind (hgw _ ?_)
  split
  ·refine wpAny_bind ?_
   rw [hashByValue_scannable 8 rfl]
   refine wpAny_pure ?_
   refine zbG ?_ ho hs1 hk1 hb1' ?_ ?_ ?_ ?_
   ·intro b s₁ Q' hq; cases b <;> first | exact wpAny_pure hq | exact wpAny_rule hq
   ·exact SetTable.fits_plain_off hfits
   ·exact hled.1.trans hl
   ·rfl
   ·intro h' o' hsb ho' hS'; dsimp only; exact wpAny_pure (h _ _ _ hsb ho' hS')
  ·rename_i hnp
   refine wpAny_bind (wpAny_pure ?_)
   simp only [↓reduceIte]
   refine zbG ?_ ho hs1 hk1 hb1' hfits (hled.1.trans hl) (by simpa using hnp) ?_
   ·intro b s₁ Q' hq; cases b <;> first | exact wpAny_pure hq | exact wpAny_rule hq
   ·intro h' o' hsb ho' hS'; dsimp only; exact wpAny_pure (h _ _ _ hsb ho' hS')
end
open PySem PySem.Calls PyProof.Rows
noncomputable def keysOfS (val : Nat → PySem.Str) (i : Nat) : List PySem.Str := ((List.range i).map val).foldl addK []
theorem zbF (val : Nat → PySem.Str) (i : Nat) : keysOfS val (i + 1) = addK (keysOfS val i) (val i) := by
 unfold keysOfS; rw [List.range_succ, List.map_append, List.foldl_append]; rfl
theorem zb8 (val : Nat → PySem.Str) : ∀ i, (keysOfS val i).length ≤ i
 | 0 => Nat.le_refl _
 | i + 1 => by
  rw [zbF]; unfold addK
  have ih := zb8 val i
  split
  ·exact Nat.le_succ_of_le ih
  ·rw [List.length_append, List.length_singleton]; exact Nat.succ_le_succ ih
section
variable {prog : Program} {w : World} {A : Around} {R : Result → Shared → Prop} {I : Addr} {fp wr : List Addr} {G : Array GenState → Array GenState → Prop} {n : Nat} {P : Nat → Value → Prop} {St : Nat → Shared → Prop}
theorem zbX (W : WalksS prog w A.in1 I fp wr G n P St) (S : Addr) (hSf : S ∉ fp)
  (val : Nat → PySem.Str) (hval : ∀ i v, P i v → ∃ t, v = .str (val i) t) (hb : n + 1 < scanBound) :
  ∀ (k i : Nat) (s : Shared) (o : Obj), n - i = k → i ≤ n → St i s → s.heap.get? S = some o → SetOb w (keysOfS val i) o →
   (∀ s' o', Moved (S :: wr) G s s' → s'.heap.get? S = some o' → SetOb w (keysOfS val n) o' → R (.ok (.ret .none)) s') →
   codeAny (model prog w) A (.builtin "set.update.loop" ⟨[.ref S, .ref I], []⟩) R s := by
 have hSw : S ∉ wr := fun h => hSf (W.sub _ h)
 have hsub : ∀ b ∈ wr, b ∈ S :: wr := fun b hb => List.mem_cons_of_mem _ hb
 intro k
 induction k with
 | zero =>
  intro i s o hk hi hst ho hS hR
  have hin : i = n := Nat.le_antisymm hi (Nat.le_of_sub_eq_zero hk)
  subst hin
  refine codeAny_builtin PyProof.Rows.F.entry_set_update_loop ?_
  rw [Around.under_plainId PyProof.Rows.F.plain_set_update_loop _]
  show wpAny _ A.in1 (pyNext (.ref I) >>= _) _ _ s
  refine wpAny_bind (W.done s _ _ hst fun s' hm => ?_)
  show wpAny _ A.in1 (ret Value.none) _ _ s'
  exact wpAny_pure (hR s' o (hm.mono hsub) (hm.heap S _ hSw ho) hS)
 | succ k ih =>
  intro i s o hk hi hst ho hS hR
  have hlt : i < n := Nat.lt_of_sub_pos (by rw [hk]; exact Nat.succ_pos k)
  refine codeAny_builtin PyProof.Rows.F.entry_set_update_loop ?_
  rw [Around.under_plainId PyProof.Rows.F.plain_set_update_loop _]
  show wpAny _ A.in1 (pyNext (.ref I) >>= _) _ _ s
  refine wpAny_bind (W.item i s _ _ hlt hst fun v s' hP hst' hm => ?_)
  obtain ⟨t, rfl⟩ := hval i v hP
  have ho' := hm.heap S _ hSw ho
  show wpAny _ A.in1 (holding [Value.str (val i) t] (setAdd S (.str (val i) t)) >>= _) _ _ s'
  refine wpAny_bind (wpAny_holding ?_)
  unfold setAdd
  refine wpAny_holding ?_
  refine wpAny_bind (wpAny_pyHash_str ?_)
  have hroom : (keysOfS val i).length + 1 < scanBound := Nat.lt_of_le_of_lt (Nat.succ_le_succ (Nat.le_trans (zb8 val i) hi)) hb
  refine zd8 (s := { s' with toks := s'.toks + 1 }) ho' hS hroom fun b h' o' hsb ho₂ hS2 => ?_
  rw [← zbF] at hS2
  refine wpAny_pure ⟨plainId_quiet PyProof.Rows.F.plain_set_update_loop _, ih (i + 1) _ o' (congrArg Nat.pred hk) hlt (W.frame _ s' _ _ hst' (Nat.le_succ _) fun b hb o e => ?_) ho₂ hS2 fun s'' o'' hm'' ho₃ hS'' => ?_⟩
  ·rw [hsb.2 b (fun h : b = S => hSf (by rw [← h]; exact hb))]; exact e
  ·refine hR s'' o'' (Moved.trans W.gtrans ((hm.mono hsub).then_heap (Nat.le_succ _) fun b o hb e => ?_) hm'') ho₃ hS''
   rw [hsb.2 b (fun h : b = S => hb (by rw [h]; exact List.mem_cons_self))]; exact e
end
section
variable {prog : Program} {w : World} {A : Around} {E : Value → Shared → Prop} {s : Shared}
theorem zdZ (a : Value) {Q₁ : Value → Shared → Prop}
  (h : Q₁ (.ref s.heap.objs.size) { s with heap := s.heap.push { cls := .type "set", dict := none, data := .set #[] 0 (.fresh 0 0 (!byTx w)) } }) :
  codeAny (model prog w) A (.call (.builtin "set.__new__") ⟨[.type "set", a], []⟩) (wants Q₁ E) s := by
 refine codeAny_of_tree ?_
 show wpAny _ A.in1 (do checkBuiltinCall "set.__new__" ⟨[.type "set", a], []⟩; again (.builtin "set.__new__" ⟨[.type "set", a], []⟩)) _ _ s
 refine wpAny_bind (wpAny_of_eq (PySem.F.newCall_set_1 a) (wpAny_pure ⟨plainId_quiet PySem.F.plain_set_new _, codeAny_builtin PySem.F.entry_set_new ?_⟩))
 rw [Around.under_plainId PySem.F.plain_set_new _]
 unfold Builtin.«set.__new__» Builtin.Frozenset.newClass
 have hsub := PySem.sub_set_self
 obtain ⟨hp, g, d, tk, os⟩ := s
 dsimp only
 wp_walk
 refine wpAny_askSetting (wpAny_pure ?_)
 dsimp only
 simp only [newObj]
 refine wpAny_bind (wpAny_alloc (wpAny_pure ?_))
 exact wpAny_pure h
theorem zd3 {l : Addr} {items : Array Value} {val : Nat → PySem.Str} {Q : Value → Shared → Prop}
  (hh : A.handled = none) (hl : s.heap.IsList l items) (hi : ∀ (i : Nat) (v : Value), items[i]? = some v → ∃ t, v = Value.str (val i) t) (hb : items.size + 1 < scanBound)
  (h : ∀ (h' : Heap) (tk : Nat) (o : Obj), h'.get? s.heap.objs.size = some o → SetOb w (keysOfS val items.size) o →
   (∀ b o, b < s.heap.objs.size → s.heap.get? b = some o → h'.get? b = some o) → Q (.ref s.heap.objs.size) { s with heap := h', toks := tk }) :
  wpAny (model prog w) A (call (.type "set") [.ref l]) Q E s := by
 (refine x2_1 (PySem.F.called_set.mro) ?_; intro c tl hmro)
 have hmade := PySem.F.called_set.made
 have hsub := PySem.F.called_set.sub
 refine wpAny_call (codeAny_of_tree ?_)
 show wpAny _ _ (callAny (.type "set") _) _ _ _
 refine wpAny_pure ⟨Code.quiet_builtin _ (by decide +kernel), codeAny_builtin PySem.F.entry_type_call ?_⟩
 rw [Around.under_plain (weight_type_call_type "set" [.ref l] []) rfl]
 have h1 := PySem.F.called_set.notType
 have h2 := PySem.F.called_set.canCreate
 have hct := PySem.F.typeCall_set_1 (.ref l)
 repeat (any_goals (first | assumption | wp_step))
 refine codeAny_mono (zdZ (.ref l) (E := E) (Q₁ := fun obj s₁ => obj = .ref s.heap.objs.size ∧ s₁ = { s with heap := s.heap.push { cls := .type "set", dict := none, data := .set #[] 0 (.fresh 0 0 (!byTx w)) } }) ⟨rfl, rfl⟩) fun r s₁ hr => ?_
 cases r with
 | error e => exact hr
 | ok fl =>
  cases fl with
  | ret obj =>
   obtain ⟨rfl, rfl⟩ := hr
   generalize hled : (!byTx w) = led
   have hS : (s.heap.push { cls := .type "set", dict := none, data := .set #[] 0 (.fresh 0 0 led) }).get? s.heap.objs.size = some { cls := .type "set", dict := none, data := .set #[] 0 (.fresh 0 0 led) } := Heap.get?_push_size _ rfl
   have hz : (s.heap.push { cls := .type "set", dict := none, data := .set #[] 0 (.fresh 0 0 led) }).objs.size = s.heap.objs.size + 1 := Heap.size_push _ _
   have hkp : ∀ b o, s.heap.get? b = some o → (s.heap.push { cls := .type "set", dict := none, data := .set #[] 0 (.fresh 0 0 led) }).get? b = some o := fun b o e => Heap.get?_push_of_some _ e
   revert hS hz hkp
   generalize s.heap.push { cls := .type "set", dict := none, data := .set #[] 0 (.fresh 0 0 led) } = H
   intro hS hz hkp
   have hT : Shared.TypeIs { s with heap := H } (.ref s.heap.objs.size) "set" := ⟨_, hS, rfl⟩
   have hli := PySem.F.called_set.init.lookup
   have hbi := PySem.F.called_set.init.bind (.ref s.heap.objs.size)
   repeat (any_goals (first | assumption | wp_step))
   refine codeAny_mono (codeAny_call_builtin (R := wants (fun r s₂ => r = .none ∧ ∃ h' tk o, s₂ = { s with heap := h', toks := tk } ∧
     h'.get? s.heap.objs.size = some o ∧ SetOb w (keysOfS val items.size) o ∧
     (∀ b o, b < s.heap.objs.size → s.heap.get? b = some o → h'.get? b = some o)) E) PySem.F.called_set.init.plain PySem.F.entry_set_init (check_set_init_1 hT ?_)) fun r₂ s₂ hr₂ => ?_
   ·obtain ⟨ol, hol, hcl, nl, hdl⟩ := hl
    obtain ⟨ocls, odict, odata, oslots⟩ := ol
    simp only at hcl hdl
    subst hcl; subst hdl
    have hol' : H.get? l = some { cls := .type "list", dict := odict, data := .seq items nl, slots := oslots } := hkp _ _ hol
    have hsls := PySem.F.sub_list_set
    have hslf := PySem.F.sub_list_frozenset
    have hne : (Value.type "list" == Value.type "dict") = false := by decide
    have hl1 : H.IsList l items := ⟨_, hol', rfl, nl, rfl⟩
    unfold Builtin.«set.__init__» noKeywords Builtin.Frozenset.updateFrom
    generalize hPI : pyIter = PI
    wp_walk
    subst hPI
    refine wpAny_pyIter_list hl1 ?_
    refine wpAny_bind (wpAny_runValue ?_)
    have hlS : l < s.heap.objs.size := Heap.lt_size hol
    have hh3 : A.in1.in1.in1.handled = none := by simp [hh]
    have hneI : l ≠ H.objs.size := by
     rw [hz]; exact Nat.ne_of_lt (Nat.lt_succ_of_lt hlS)
    have hSf : s.heap.objs.size ∉ [H.objs.size, l] := by
     rw [hz]; simp only [List.mem_cons, List.mem_singleton, List.not_mem_nil, or_false, not_or]
     exact ⟨Nat.ne_of_lt (Nat.lt_succ_self _), Nat.ne_of_gt hlS⟩
    refine zbX ((Walks.list hh3 _ l hneI items).toS) s.heap.objs.size
     hSf val hi hb (items.size - 0) 0 _ _ (by ktn_no "om") (Nat.zero_le _)
     ⟨⟨_, Heap.get?_push_size _ rfl, rfl, rfl⟩, (hl1.push _)⟩ (Heap.get?_push_of_some _ hS) ?hS0 ?hR
    case hS0 =>
     exact .mk #[] 0 _ rfl (fun e he => by simp at he) (by simp [keysOfS]) hled.symm (.inl rfl)
    case hR =>
     intro s' o' hm ho' hS'
     obtain ⟨h', g', d', tk', os'⟩ := s'
     have eg : g' = s.gens := hm.gens
     have ed : d' = s.drawn := hm.drawn
     have eo : os' = s.os := hm.os
     subst eg; subst ed; subst eo
     show wpAny _ _ _ _ _ _
     refine wpAny_pure ?_
     show wpAny _ _ (ret Value.none) _ _ _
     refine wpAny_pure ⟨rfl, h', tk', o', rfl, ho', hS', fun b o hb e => ?_⟩
     have hb1 : b ≠ s.heap.objs.size := Nat.ne_of_lt hb
     have hb2 : b ≠ H.objs.size := by
      rw [hz]; exact Nat.ne_of_lt (Nat.lt_succ_of_lt hb)
     exact hm.heap b o (by simp only [List.mem_cons, List.mem_singleton, List.not_mem_nil, or_false, not_or]; exact ⟨hb1, hb2⟩) (Heap.get?_push_of_some _ (hkp _ _ e))
   ·cases r₂ with
    | error e => exact hr₂
    | ok fl₂ =>
     cases fl₂ with
     | ret r =>
      (refine y3_4 (hr₂) ?_; try clear hr₂; intro eqX0 h' tk o eqX4 ho hS' hk'; subst eqX0; subst eqX4)
      repeat (any_goals (first | assumption | wp_step))
      exact h _ _ _ ho hS' hk'
     | _ => exact hr₂.elim
  | _ => exact hr.elim
end
open PySem PySem.Calls PyProof.Rows
theorem zb2 : Manifest.owners.lookup (String.ofList ['r', 'o', 't', 'a', 'r', 'e', 't', 'i', '_', 't', 'e', 's'].reverse) = some Manifest.sig_set_iterator := by kernel_rfl
theorem slot_setit_next : Slot "set_iterator" "__next__" "set_iterator.__next__" :=
 .of (owner := "set_iterator") (n := "__next__") (by rw [typeLookup_type, builtinLookup_eq_fast]; kernel_rfl) (by decide +kernel) (by decide +kernel) (by decide +kernel)
  (by first | exact .inl (by decide +kernel) | exact .inr (by decide +kernel)) (by rw [isSubtype_type]; kernel_rfl)
theorem zaO : entryFor table "set_iterator.__next__" = some Builtin.«set_iterator.__next__» := entryFor_of_tree (by kernel_rfl)
theorem zaX (a : Value) : argsOk "set_iterator.__next__" ⟨[a], []⟩ := by
 unfold argsOk; rw [signature?_of (id := "set_iterator.__next__") (n := ['_', '_', 't', 'x', 'e', 'n', '_', '_']) (o := ['r', 'o', 't', 'a', 'r', 'e', 't', 'i', '_', 't', 'e', 's']) (by kernel_rfl) zb2]; kernel_rfl
theorem zaU : Slot "set_iterator" "__iter__" "set_iterator.__iter__" :=
 .of (owner := "set_iterator") (n := "__iter__") (by rw [typeLookup_type, builtinLookup_eq_fast]; kernel_rfl) (by decide +kernel) (by decide +kernel) (by decide +kernel)
  (by first | exact .inl (by decide +kernel) | exact .inr (by decide +kernel)) (by rw [isSubtype_type]; kernel_rfl)
theorem zbV (a : Value) : argsOk "set_iterator.__iter__" ⟨[a], []⟩ := by
 unfold argsOk; rw [signature?_of (id := "set_iterator.__iter__") (n := ['_', '_', 'r', 'e', 't', 'i', '_', '_']) (o := ['r', 'o', 't', 'a', 'r', 'e', 't', 'i', '_', 't', 'e', 's']) (by kernel_rfl) zb2]; kernel_rfl
theorem zbK : entryFor table "set_iterator.__iter__" = some Builtin.«dict_keyiterator.__iter__» :=
 entryFor_alias (id' := "dict_keyiterator.__iter__") (by kernel_rfl) rfl (by decide +kernel) (by kernel_rfl)
theorem zcl : entryFor table "set.__iter__" = some Builtin.«frozenset.__iter__» :=
 entryFor_alias (id' := "frozenset.__iter__") (by kernel_rfl) rfl (by decide +kernel) (by kernel_rfl)
theorem zdp : typeLookup (.type "set") "__len__" = pure (some (.builtin "set.__len__")) := by rw [typeLookup_type, builtinLookup_eq_fast]; kernel_rfl
noncomputable abbrev siO (first : Value) (i : Int) (s : Value) (n : Int) (ep : Nat) : Obj := ⟨.type "set_iterator", none, .fields #[first, rawInt i, s, rawInt n, rawInt ep], #[]⟩
section
variable {prog : Program} {w : World} {A : Around} {E : Value → Shared → Prop} {s : Shared}
theorem zda {src : Source} {n : Nat} {Q : Nat → Shared → Prop} (hn : 0 < n) (h : ∀ i d, i < n → Q i { s with drawn := d }) : wpAny (model prog w) A (choose src n) Q E s :=
 fun _ _ _ => ⟨Nat.pos_iff_ne_zero.mp hn, h _ _ (Nat.mod_lt _ hn)⟩
theorem zcE {α : Type} {xs : List α} {i : Nat} {x : α} (h : xs[i]? = some x) : (x :: xs.eraseIdx i).Perm xs := by
 induction xs generalizing i with
 | nil => simp at h
 | cons y ys ih =>
  cases i with
  | zero => simp at h; subst h; simp
  | succ i => simp only [List.getElem?_cons_succ] at h; rw [List.eraseIdx_cons_succ]; exact (List.Perm.swap _ _ _).trans ((ih h).cons y)
theorem zaT {α : Type} {Q : List α → Shared → Prop} : ∀ (n : Nat) (xs : List α) (s : Shared), n = xs.length → (∀ ys d, ys.Perm xs → Q ys { s with drawn := d }) → wpAny (model prog w) A (drawOrder n xs) Q E s
 | 0, xs, s, hn, h => by
  rw [List.eq_nil_of_length_eq_zero hn.symm] at h ⊢
  exact wpAny_pure (h [] s.drawn .nil)
 | n + 1, [], s, hn, h => by cases hn
 | n + 1, x :: xs, s, hn, h => by
  unfold drawOrder
  refine wpAny_bind (zda (by simp) fun i d hi => ?_)
  have hx : (x :: xs)[i]? = some ((x :: xs)[i]'hi) := List.getElem?_eq_getElem hi
  rw [hx]
  dsimp only
  have hl : n = ((x :: xs).eraseIdx i).length := by rw [List.length_eraseIdx_of_lt hi]; exact (Nat.sub_eq_of_eq_add hn.symm).symm
  refine wpAny_bind (zaT n _ _ hl fun ys d' hp => wpAny_pure (h _ d' ?_))
  exact (hp.cons _).trans (zcE hx)
theorem zdk {α : Type} (nx : Nat → Nat) : ∀ (fuel k : Nat) (l : List α) (out : Array α), fuel = l.length → (pickOrder.go nx fuel k l out).toList.Perm (out.toList ++ l) := by
 intro fuel
 induction fuel with
 | zero =>
  intro k l out h
  rw [List.eq_nil_of_length_eq_zero h.symm, List.append_nil]; exact .refl _
 | succ f ih =>
  intro k l out h
  unfold pickOrder.go
  have hl : nx k % l.length < l.length := Nat.mod_lt _ (by rw [← h]; exact Nat.succ_pos f)
  rw [List.getElem?_eq_getElem hl]
  dsimp only
  have hx := zcE (List.getElem?_eq_getElem hl)
  refine (ih (k + 1) _ _ (by rw [List.length_eraseIdx_of_lt hl]; exact (Nat.sub_eq_of_eq_add h.symm).symm)).trans ?_
  rw [Array.toList_push, List.append_assoc]
  exact hx.append_left _
theorem zbU {α : Type} (nx : Nat → Nat) (xs : Array α) : (pickOrder nx xs).toList.Perm xs.toList := by
 have := zdk nx xs.size 0 xs.toList #[] (by simp)
 simpa [pickOrder] using this
theorem zay {it : Addr} {first S : Value} {i n : Int} {ep : Nat} (h : s.heap.get? it = some (siO first i S n ep)) : s.TypeIs (.ref it) "set_iterator" := ⟨_, h, rfl⟩
theorem zd6 {it : Addr} {first S : Value} {i n : Int} {ep : Nat} {Q : Value → Shared → Prop} (hit : s.heap.get? it = some (siO first i S n ep)) (h : Q (.ref it) s) : wpAny (model prog w) A (pyIter (.ref it)) Q E s := by
 refine wpAny_pyIter_slot (zay hit) zaU (wpAny_call_entry zaU (zay hit) zbK ?_ (zbV _))
 show wpAny _ _ (ret (.ref it)) _ _ s
 exact wpAny_pure ⟨_, rfl, "set_iterator", _, zay hit, slot_setit_next.lookup, h⟩
theorem zcA {P : Fin → Shared → Prop} {R : Value → Shared → Prop} (hh : A.handled = none) (h : ∀ x h', Shared.TypeIs { s with heap := h' } x "StopIteration" → (∀ b o, s.heap.get? b = some o → h'.get? b = some o) → R x { s with heap := h' }) :
  wpAny (model prog w) A (newExc (.type "StopIteration") [] >>= fun e => raiseNew e) P R s := by
 refine wpAny_bind ?_
 simp only [newExc, newTuple]
 refine wpAny_bind (wpAny_newObj_type ?_ (by size_fits))
 refine wpAny_bind (m := firstArgMember _ _) (wpAny_of_eq (a := Value.none) (by first | rfl | (simp only [firstArgMember]; rfl)) ?_)
 refine wpAny_newObj_type ?_ (by size_fits)
 simp only [raiseNew]
 refine wpAny_bind (wpAny_handled ?_)
 rw [hh]
 refine wpAny_bind (wpAny_pure (wpAny_throw ?_))
 exact h _ _ ⟨_, Heap.get?_push_size _ rfl, rfl⟩ fun b o e => Heap.get?_push_of_some _ (Heap.get?_push_of_some _ e)
theorem zfE {x : Value} {Q : Bool → Shared → Prop} (hT : s.TypeIs x "StopIteration") (h : Q true s) : wpAny (model prog w) A (isInstance x (.type "StopIteration")) Q E s :=
 wpAny_isInstance hT isSubtype_stop h
section
variable {it S T : Addr} {i n ep slot : Nat} {es : Array (Int × Value)} {t : SetTable} {Q : Option Value → Shared → Prop}
theorem zbr (hh : A.handled = none) (hit : s.heap.get? it = some (siO (rawInt slot) i (.ref S) n ep)) (ho : s.heap.get? S = some ⟨.type "set", none, .set es ep t, #[]⟩) (hf : t.fits es.size = true) (hn : es.size = n)
  (h : wpAny (model prog w) A.in1 (setNext S slot i ep) (fun r s' => s' = s ∧ match r with
   | some (x, nx) => ∀ h', h'.get? it = some (siO (rawInt nx) (i + 1 : Nat) (.ref S) n ep) → (∀ b o, b ≠ it → s.heap.get? b = some o → h'.get? b = some o) → Q (some x) { s with heap := h' }
   | none => ∀ h', (∀ b o, b ≠ it → s.heap.get? b = some o → h'.get? b = some o) → Q none { s with heap := h' }) (fun _ _ => False) s) :
  wpAny (model prog w) A (pyNext (.ref it)) Q E s := by
 unfold pyNext
 refine wpAny_bind (wpAny_attempt (wpAny_callSpecial?_slot (name := Str.ofString "__next__") (zay hit) slot_setit_next
  (wpAny_call_entry slot_setit_next (zay hit) zaO ?_ (zaX _))))
 unfold Builtin.«set_iterator.__next__»
 refine wpAny_bind (wpAny_pure ?_)
 dsimp only
 refine wpAny_bind (wpAny_fieldsOf hit rfl ?_)
 dsimp only [rawInt]
 refine wpAny_bind (wpAny_setEntries_of ho rfl hf ?_)
 (ktn_no "iN"; exact (by simp [hn]))
 refine wpAny_bind ?_
 simp only [Int.toNat_natCast]
 refine wpAny_mono h (fun r s' hr => ?_) (fun _ _ z => z.elim)
 obtain ⟨rfl, hr⟩ := hr
 cases r with
 | some p =>
  obtain ⟨x, nx⟩ := p
  dsimp only at hr ⊢
  refine wpAny_bind (wpAny_setField hit rfl (by simp) ?_)
  have h1 := Heap.get?_update_self (Obj.mapFields fun vs => vs.setIfInBounds 0 (Value.int nx 0)) hit (Obj.isFreed_of_fields (Obj.data_mapFields rfl _))
  refine wpAny_bind (wpAny_setField h1 (Obj.data_mapFields rfl _) (by simp) ?_)
  have h2 := Heap.get?_update_self (Obj.mapFields fun vs => vs.setIfInBounds 1 (Value.int (i + 1) 0)) h1 (Obj.isFreed_of_fields (Obj.data_mapFields (Obj.data_mapFields rfl _) _))
  refine wpAny_pure ⟨_, rfl, wpAny_pure (hr _ ?_ fun b o hb e => ?_)⟩
  ·exact h2
  ·rw [Heap.get?_update_other _ _ (fun q => hb q.symm), Heap.get?_update_other _ _ (fun q => hb q.symm)]; exact e
 | none =>
  dsimp only at hr ⊢
  refine wpAny_bind (wpAny_setField hit rfl (by simp) ?_)
  refine zcA hh fun x h' hT hk => wpAny_bind (zfE hT (by rw [if_pos rfl]; exact wpAny_pure (hr h' fun b o hb e => hk b o (by rw [Heap.get?_update_other _ _ (fun q => hb q.symm)]; exact e))))
theorem zct {pl : List Nat} (hh : A.handled = none) (hit : s.heap.get? it = some (siO (.ref T) i (.ref S) n ep)) (hT : s.heap.get? T = some ⟨.type "tuple", none, .seq (pl.map fun (j : Nat) => rawInt j).toArray 0, #[]⟩) (ho : s.heap.get? S = some ⟨.type "set", none, .set es ep t, #[]⟩) (hf : t.fits es.size = true) (hn : es.size = n)
  (h : match pl[i]? with
   | some j => ∃ e, es[j]? = some e ∧ ∀ h', h'.get? it = some (siO (.ref T) (i + 1 : Nat) (.ref S) n ep) → (∀ b o, b ≠ it → s.heap.get? b = some o → h'.get? b = some o) → Q (some e.2) { s with heap := h' }
   | none => ∀ h', (∀ b o, b ≠ it → s.heap.get? b = some o → h'.get? b = some o) → Q none { s with heap := h' }) :
  wpAny (model prog w) A (pyNext (.ref it)) Q E s := by
 unfold pyNext
 refine wpAny_bind (wpAny_attempt (wpAny_callSpecial?_slot (name := Str.ofString "__next__") (zay hit) slot_setit_next
  (wpAny_call_entry slot_setit_next (zay hit) zaO ?_ (zaX _))))
 unfold Builtin.«set_iterator.__next__»
 refine wpAny_bind (wpAny_pure ?_)
 dsimp only
 refine wpAny_bind (wpAny_fieldsOf hit rfl ?_)
 dsimp only [rawInt]
 refine wpAny_bind (wpAny_setEntries_of ho rfl hf ?_)
 (ktn_no "iN"; exact (by simp [hn]))
 refine wpAny_bind (wpAny_seqItems hT rfl ?_)
 dsimp only
 simp only [Int.toNat_natCast, List.getElem?_toArray, List.getElem?_map]
 cases hp : pl[i]? with
 | some j =>
  rw [hp] at h
  (refine x1_2 (h) ?_; try clear h; intro e he hr)
  simp only [Option.map_some, rawInt, Int.toNat_natCast]
  unfold setNextDrawn
  refine wpAny_bind (wpAny_bind (wpAny_setState_of ho rfl hf ?_))
  dsimp only
  (ktn_no "iN"; exact (by simp))
  rw [he]
  obtain ⟨e1, e2⟩ := e
  refine wpAny_pure ?_
  refine wpAny_bind (wpAny_setField hit rfl (by simp) ?_)
  have h1 := Heap.get?_update_self (Obj.mapFields fun vs => vs.setIfInBounds 1 (Value.int (i + 1) 0)) hit (Obj.isFreed_of_fields (Obj.data_mapFields rfl _))
  refine wpAny_pure ⟨_, rfl, wpAny_pure (hr _ ?_ fun b o hb e => ?_)⟩
  ·exact h1
  ·rw [Heap.get?_update_other _ _ (fun q => hb q.symm)]; exact e
 | none =>
  rw [hp] at h
  simp only [Option.map_none]
  refine wpAny_bind (wpAny_setField hit rfl (by simp) ?_)
  have h1 := Heap.get?_update_self (Obj.mapFields fun vs => vs.setIfInBounds 0 (rawInt 0)) hit (Obj.isFreed_of_fields (Obj.data_mapFields rfl _))
  refine wpAny_bind (wpAny_setField h1 (Obj.data_mapFields rfl _) (by simp) ?_)
  refine zcA hh fun x h' hT hk => wpAny_bind (zfE hT ?_)
  (ktn_no "iP"; exact rfl)
  refine wpAny_pure (h h' fun b o hb e => hk b o ?_)
  rw [Heap.get?_update_other _ _ (fun q => hb q.symm), Heap.get?_update_other _ _ (fun q => hb q.symm)]; exact e
end
end
open PySem PySem.Calls PyProof.Rows
section
variable {prog : Program} {w : World} {A : Around} {E : Value → Shared → Prop} {s : Shared}
noncomputable abbrev AtS (ks : List PySem.Str) : Nat → Value → Prop := fun i v => ∃ x u, ks[i]? = some x ∧ v = .str x u
noncomputable abbrev setO (es : Array (Int × Value)) (ep : Nat) (t : SetTable) : Obj := ⟨.type "set", none, .set es ep t, #[]⟩
section
variable {I S T : Addr} {es : Array (Int × Value)} {ep : Nat} {t : SetTable} {pl : List Nat}
theorem strs_at (hs : ∀ e ∈ es.toList, ∃ x u, e = (hashStr w x, .str x u)) {j : Nat} {e : Int × Value} (he : es[j]? = some e) : ∃ u, e.2 = .str (keyS e) u := by
 obtain ⟨x, u, rfl⟩ := hs e (by rw [← Array.getElem?_toList] at he; exact List.mem_of_getElem? he)
 exact ⟨u, rfl⟩
theorem zdP (hh : A.handled = none) (hIS : I ≠ S) (hIT : I ≠ T) (hf : t.fits es.size = true) (hs : ∀ e ∈ es.toList, ∃ x u, e = (hashStr w x, .str x u)) (hp : pl.Perm (List.range es.size)) :
  WalksS prog w A I [I, T, S] [I] (fun a b => b = a) es.size (AtS (pl.map fun j => keyS (es.getD j default)))
   (fun i s => s.heap.get? I = some (siO (.ref T) i (.ref S) es.size ep) ∧ s.heap.get? T = some ⟨.type "tuple", none, .seq (pl.map fun (j : Nat) => rawInt j).toArray 0, #[]⟩ ∧ s.heap.get? S = some (setO es ep t)) where
 sub := fun b hb => by simp at hb; simp [hb]
 grefl := fun _ => rfl
 gtrans := fun _ _ _ h1 h2 => h2.trans h1
 frame := fun i s h' tk st _ hk => ⟨hk I (by simp) _ st.1, hk T (by simp) _ st.2.1, hk S (by simp) _ st.2.2⟩
 item := fun i s Q E hi st hQ => by
  have hl : i < pl.length := by rw [hp.length_eq, List.length_range]; exact hi
  have hj : pl[i] < es.size := List.mem_range.mp (hp.mem_iff.mp (List.getElem_mem hl))
  refine zct hh st.1 st.2.1 st.2.2 hf rfl ?_
  rw [List.getElem?_eq_getElem hl]
  refine ⟨es[pl[i]], Array.getElem?_eq_getElem hj, fun h' hit hk => ?_⟩
  refine hQ _ _ ?_ ⟨hit, hk T _ hIT.symm st.2.1, hk S _ hIS.symm st.2.2⟩ ⟨fun b o hb e => hk b o (fun h => hb (by simp [h])) e, rfl, rfl, rfl, Nat.le_refl _⟩
  obtain ⟨u, hu⟩ := strs_at hs (Array.getElem?_eq_getElem hj)
  refine ⟨_, u, ?_, hu⟩
  rw [List.getElem?_map, List.getElem?_eq_getElem hl, Option.map_some, Array.getD_eq_getD_getElem?, Array.getElem?_eq_getElem hj]
  rfl
 done := fun s Q E st hQ => by
  refine zct hh st.1 st.2.1 st.2.2 hf rfl ?_
  rw [List.getElem?_eq_none (by rw [hp.length_eq, List.length_range]; exact Nat.le_refl _)]
  exact fun h' hk => hQ _ ⟨fun b o hb e => hk b o (fun h => hb (by simp [h])) e, rfl, rfl, rfl, Nat.le_refl _⟩
 self := fun i s Q E st hQ => zd6 st.1 hQ
theorem zfo (hh : A.handled = none) (hIS : I ≠ S) (hf : t.fits es.size = true) (hs : ∀ e ∈ es.toList, ∃ x u, e = (hashStr w x, .str x u)) (hb : byTx w = true) :
  WalksS prog w A I [I, S] [I] (fun a b => b = a) es.size (AtS ((pickOrder (w.params.setOrder S ep) es).toList.map keyS))
   (fun i s => s.heap.get? I = some (siO (rawInt ((0 : Nat) : Int)) i (.ref S) es.size ep) ∧ s.heap.get? S = some (setO es ep t)) where
 sub := fun b hb => by simp at hb; simp [hb]
 grefl := fun _ => rfl
 gtrans := fun _ _ _ h1 h2 => h2.trans h1
 frame := fun i s h' tk st _ hk => ⟨hk I (by simp) _ st.1, hk S (by simp) _ st.2⟩
 item := fun i s Q E hi st hQ => by
  have hp := zbU (w.params.setOrder S ep) es
  have hl : i < (pickOrder (w.params.setOrder S ep) es).size := by rw [← Array.length_toList, hp.length_eq]; simpa using hi
  refine zbr hh st.1 st.2 hf rfl ?_
  unfold setNext
  refine wpAny_bind (wpAny_setState_of st.2 rfl hf ?_)
  dsimp only
  unfold setsByText
  refine wpAny_bind (wpAny_bind (wpAny_askSetting (wpAny_pure ?_)))
  show wpAny _ _ (if byTx w = true then _ else _) _ _ _
  rw [if_pos hb, if_neg (by simp)]
  unfold setWalk
  refine wpAny_bind (wpAny_bind (wpAny_setState_of st.2 rfl hf ?_))
  dsimp only
  unfold setsByText
  refine wpAny_bind (wpAny_bind (wpAny_askSetting (wpAny_pure ?_)))
  show wpAny _ _ (if byTx w = true then _ else _) _ _ _
  (ktn_no "iP"; exact hb)
  refine wpAny_bind (wpAny_askSetting (wpAny_pure (wpAny_pure ⟨rfl, ?_⟩)))
  simp only [show (model prog w).w = w from rfl]
  rw [Array.getElem?_eq_getElem hl, Option.map_some]
  intro h' hit hk
  refine hQ _ _ ?_ ⟨hit, hk S _ hIS.symm st.2⟩ ⟨fun b o hb e => hk b o (fun h => hb (by simp [h])) e, rfl, rfl, rfl, Nat.le_refl _⟩
  have hm : (pickOrder (w.params.setOrder S ep) es)[i] ∈ es.toList := hp.mem_iff.mp (by rw [← Array.getElem_toList (h := hl)]; exact List.getElem_mem _)
  (refine x2_1 (hs _ hm) ?_; intro x u hx)
  refine ⟨x, u, ?_, by rw [hx]⟩
  rw [List.getElem?_map, Array.getElem?_toList, Array.getElem?_eq_getElem hl, Option.map_some, hx]
  rfl
 done := fun s Q E st hQ => by
  have hp := zbU (w.params.setOrder S ep) es
  have hl : (pickOrder (w.params.setOrder S ep) es).size = es.size := by rw [← Array.length_toList, hp.length_eq, Array.length_toList]
  refine zbr hh st.1 st.2 hf rfl ?_
  unfold setNext
  refine wpAny_bind (wpAny_setState_of st.2 rfl hf ?_)
  dsimp only
  unfold setsByText
  refine wpAny_bind (wpAny_bind (wpAny_askSetting (wpAny_pure ?_)))
  show wpAny _ _ (if byTx w = true then _ else _) _ _ _
  rw [if_pos hb, if_neg (by simp)]
  unfold setWalk
  refine wpAny_bind (wpAny_bind (wpAny_setState_of st.2 rfl hf ?_))
  dsimp only
  unfold setsByText
  refine wpAny_bind (wpAny_bind (wpAny_askSetting (wpAny_pure ?_)))
  show wpAny _ _ (if byTx w = true then _ else _) _ _ _
  (ktn_no "iP"; exact hb)
  refine wpAny_bind (wpAny_askSetting (wpAny_pure (wpAny_pure ⟨rfl, ?_⟩)))
  simp only [show (model prog w).w = w from rfl]
  rw [Array.getElem?_eq_none (by ktn_no "om")]
  exact fun h' hk => hQ _ ⟨fun b o hb e => hk b o (fun h => hb (by simp [h])) e, rfl, rfl, rfl, Nat.le_refl _⟩
 self := fun i s Q E st hQ => zd6 st.1 hQ
theorem one_of {α : Type} {xs : Array α} (h : xs.size = 1) : ∃ x, xs = #[x] := by
 obtain ⟨l⟩ := xs
 obtain ⟨x, l, rfl⟩ := List.exists_cons_of_length_eq_add_one h
 cases l with
 | nil => exact ⟨x, rfl⟩
 | cons y l => cases h
theorem zfu (j : Nat) : SetTable.below #[j] 0 = 0 := by simp [SetTable.below, SetTable.below.go]
theorem zfk (j : Nat) : SetTable.below #[j] (j + 1) = 1 := by simp [SetTable.below, SetTable.below.go]
theorem zfM (hh : A.handled = none) (hIS : I ≠ S) (hf : t.fits es.size = true) (hs : ∀ e ∈ es.toList, ∃ x u, e = (hashStr w x, .str x u)) (hb : byTx w = false) (hl : t.led = true) (h1 : es.size ≤ 1) :
  WalksS prog w A I [I, S] [I] (fun a b => b = a) es.size (AtS (es.toList.map keyS))
   (fun i s => s.heap.get? I = some (siO (rawInt ((if i = 0 then 0 else t.place.getD 0 0 + 1 : Nat) : Int)) i (.ref S) es.size ep) ∧ s.heap.get? S = some (setO es ep t)) where
 sub := fun b hb => by simp at hb; simp [hb]
 grefl := fun _ => rfl
 gtrans := fun _ _ _ h1 h2 => h2.trans h1
 frame := fun i s h' tk st _ hk => ⟨hk I (by simp) _ st.1, hk S (by simp) _ st.2⟩
 item := fun i s Q E hi st hQ => by
  refine zbr hh st.1 st.2 hf rfl ?_
  unfold setNext
  refine wpAny_bind (wpAny_setState_of st.2 rfl hf ?_)
  dsimp only
  unfold setsByText
  refine wpAny_bind (wpAny_bind (wpAny_askSetting (wpAny_pure ?_)))
  show wpAny _ _ (if byTx w = true then _ else _) _ _ _
  (ktn_no "iN"; exact (by rw [hb]; exact Bool.false_ne_true))
  show wpAny _ _ (if (!t.plain && decide (es.size > 1)) = true then _ else _) _ _ _
  (ktn_no "iN"; exact (by rw [decide_eq_false (by ktn_no "om"), Bool.and_false]; exact Bool.false_ne_true))
  refine wpAny_bind ?_
  show wpAny _ _ (if (!t.led && !es.isEmpty) = true then _ else _) _ _ _
  (ktn_no "iN"; exact (by rw [hl]; simp))
  refine wpAny_pure (wpAny_pure ⟨rfl, ?_⟩)
  have hi0 : i = 0 := by ktn_no "o4"
  subst hi0
  obtain ⟨j, hj⟩ : ∃ j, t.place = #[j] := one_of (by simp [SetTable.fits] at hf; ktn_no "o4")
  obtain ⟨e, he⟩ : ∃ e, es = #[e] := one_of (by ktn_no "om")
  rw [if_pos rfl, hj, zfu]
  subst he
  show ∀ h', _
  intro h' hit hk
  (refine x2_1 (hs e (by simp)) ?_; intro x u hx)
  refine hQ _ _ ⟨x, u, by rw [hx]; rfl, by rw [hx]⟩ ⟨?_, hk S _ hIS.symm st.2⟩ ⟨fun b o hb e => hk b o (fun h => hb (by simp [h])) e, rfl, rfl, rfl, Nat.le_refl _⟩
  rw [hj]
  exact hit
 done := fun s Q E st hQ => by
  refine zbr hh st.1 st.2 hf rfl ?_
  unfold setNext
  refine wpAny_bind (wpAny_setState_of st.2 rfl hf ?_)
  dsimp only
  unfold setsByText
  refine wpAny_bind (wpAny_bind (wpAny_askSetting (wpAny_pure ?_)))
  show wpAny _ _ (if byTx w = true then _ else _) _ _ _
  (ktn_no "iN"; exact (by rw [hb]; exact Bool.false_ne_true))
  show wpAny _ _ (if (!t.plain && decide (es.size > 1)) = true then _ else _) _ _ _
  (ktn_no "iN"; exact (by rw [decide_eq_false (by ktn_no "om"), Bool.and_false]; exact Bool.false_ne_true))
  refine wpAny_bind ?_
  show wpAny _ _ (if (!t.led && !es.isEmpty) = true then _ else _) _ _ _
  (ktn_no "iN"; exact (by rw [hl]; simp))
  refine wpAny_pure (wpAny_pure ⟨rfl, ?_⟩)
  rcases Nat.eq_zero_or_pos es.size with h0 | h0
  ·have e1 : es = #[] := Array.eq_empty_of_size_eq_zero h0
   subst e1
   rw [show ∀ n : Nat, (#[] : Array (Int × Value))[n]? = none from fun n => by simp]
   exact fun h' hk => hQ _ ⟨fun b o hb e => hk b o (fun h => hb (by simp [h])) e, rfl, rfl, rfl, Nat.le_refl _⟩
  ·obtain ⟨j, hj⟩ : ∃ j, t.place = #[j] := one_of (by simp [SetTable.fits] at hf; ktn_no "o4")
   obtain ⟨e, he⟩ : ∃ e, es = #[e] := one_of (by ktn_no "om")
   subst he
   rw [hj, if_neg (by simp), show (#[j] : Array Nat).getD 0 0 = j from rfl, zfk]
   exact fun h' hk => hQ _ ⟨fun b o hb e => hk b o (fun h => hb (by simp [h])) e, rfl, rfl, rfl, Nat.le_refl _⟩
 self := fun i s Q E st hQ => zd6 st.1 hQ
end
end
open PySem PySem.Calls PyProof.Rows
section
variable {prog : Program} {w : World} {A : Around} {E : Value → Shared → Prop} {s : Shared}
theorem zed {es : Array (Int × Value)} {pl : List Nat} (hp : pl.Perm (List.range es.size)) : (pl.map fun j => keyS (es.getD j default)).Perm (es.toList.map keyS) := by
 refine (hp.map _).trans (.of_eq ?_)
 apply List.ext_getElem (by simp)
 intro j h1 h2
 have hj : j < es.size := by simpa using h1
 simp [Array.getD_eq_getD_getElem?, Array.getElem?_eq_getElem hj]
structure SetWalk (prog : Program) (w : World) (A : Around) (ks : List PySem.Str) (S I : Addr) (s₀ s : Shared) : Prop where
 walk : ∃ fp ks' St, ks'.Perm ks ∧ WalksS prog w A I fp [I] (fun a b => b = a) ks'.length (AtS ks') St ∧ St 0 s ∧ I ∈ fp ∧ I ≠ S ∧ (∀ b ∈ fp, b < s.heap.objs.size) ∧ ∀ b ∈ fp, b ≠ S → s₀.heap.get? b = none
theorem SetWalk.of {ks ks' : List PySem.Str} {S I : Addr} {s₀ s : Shared} {n : Nat} {fp : List Addr} {St : Nat → Shared → Prop} (W : WalksS prog w A I fp [I] (fun a b => b = a) n (AtS ks') St) (hn : ks'.length = n) (hp : ks'.Perm ks) (h0 : St 0 s) (hI : I ∈ fp) (hne : I ≠ S) (h1 : ∀ b ∈ fp, b < s.heap.objs.size) (h2 : ∀ b ∈ fp, b ≠ S → s₀.heap.get? b = none) : SetWalk prog w A ks S I s₀ s :=
 ⟨⟨fp, ks', St, hp, by rw [hn]; exact W, h0, hI, hne, h1, h2⟩⟩
theorem zhe {S : Addr} {o : Obj} {ks : List PySem.Str} {Q : Value → Shared → Prop} (hh : A.handled = none) (ho : s.heap.get? S = some o) (hS : SetOb w ks o) (hsz' : ks.length ≤ 1000)
  (q : ∀ I h' d, SetWalk prog w A ks S I s { s with heap := h', drawn := d } → (∀ b o, s.heap.get? b = some o → h'.get? b = some o) → Q (.ref I) { s with heap := h', drawn := d }) :
  wpAny (model prog w) A (pyIter (.ref S)) Q E s := by
 obtain ⟨es, ep, t, hf, hs, hk', hl, hpl⟩ := hS
 have hT : s.TypeIs (.ref S) "set" := ⟨_, ho, rfl⟩
 have hlt : S < s.heap.objs.size := Heap.lt_size ho
 have hsz : es.size ≤ 1000 := by have := hk'.length_eq; simp at this; ktn_no "o4"
 refine wpAny_pyIter_slot hT PySem.F.slot_set_iter (wpAny_call_entry PySem.F.slot_set_iter hT zcl ?_ (PySem.F.args_set_iter_1 _))
 unfold Builtin.«frozenset.__iter__» Builtin.Frozenset.slot0 Builtin.Frozenset.addrOf Builtin.Frozenset.sizeOf
 refine wpAny_bind (wpAny_bind (wpAny_pure (wpAny_pure ?_)))
 dsimp only
 refine wpAny_bind (wpAny_bind (wpAny_setEntries_of ho rfl hf (wpAny_pure ?_)))
 refine wpAny_bind ?_
 refine wpAny_bind ?_
 refine wpAny_setState_of ho rfl hf ?_
 dsimp only
 unfold setsByText
 refine wpAny_bind (wpAny_bind (wpAny_askSetting (wpAny_pure (wpAny_pure ?_))))
 show wpAny _ _ (if (!(byTx w) && (!t.plain && decide (es.size > 1))) = true then _ else _) _ _ _
 have fin0 : ∀ first : Value, (∀ I h', h'.get? I = some (siO first ((0 : Nat) : Int) (.ref S) es.size ep) → (∀ b o, s.heap.get? b = some o → h'.get? b = some o) → s.heap.get? I = none → I < h'.objs.size → SetWalk prog w A ks S I s { s with heap := h' }) →
   wpAny (model prog w) A.in1 (do
    let e ← setEpoch S
    let it ← newFields "set_iterator" [first, rawInt 0, .ref S, rawInt es.size, rawInt e]
    ret it) (fun fin s' => ∃ v, fin = .done (.ret v) ∧ ∃ T' r, s'.TypeIs v T' ∧ typeLookup (.type T') "__next__" = pure (some r) ∧ Q v s') E s := by
  intro first h
  refine wpAny_bind (wpAny_setEpoch_of ho rfl hf ?_)
  refine wpAny_bind (wpAny_newObj_type (wpAny_pure ⟨_, rfl, "set_iterator", _, ⟨_, Heap.get?_push_size _ rfl, rfl⟩, slot_setit_next.lookup, ?_⟩))
  have hk : ∀ b o, s.heap.get? b = some o → (s.heap.push (siO first ((0 : Nat) : Int) (.ref S) es.size ep)).get? b = some o := fun b o e => Heap.get?_push_of_some _ e
  exact q _ _ s.drawn (h _ _ (Heap.get?_push_size _ rfl) hk (Heap.get?_none_of_le (Nat.le_refl _)) (by rw [Heap.size_push]; exact Nat.lt_succ_self _)) hk
 cases hb : byTx w with
 | true =>
  (ktn_no "iN"; exact (by simp))
  refine fin0 _ fun I h' hI hk hn hz => ?_
  have hIS : I ≠ S := fun e => by rw [e, ho] at hn; cases hn
  have hp := zbU (w.params.setOrder S ep) es
  have W := zfo (prog := prog) (A := A) (ep := ep) hh hIS hf hs hb
  have hn' : ((pickOrder (w.params.setOrder S ep) es).toList.map keyS).length = es.size := by rw [List.length_map, hp.length_eq, Array.length_toList]
  refine .of W hn' ((hp.map keyS).trans hk') ⟨hI, hk _ _ ho⟩ (by simp) hIS (fun b hb => ?_) (fun b hb hbS => ?_)
  ·rcases List.mem_cons.mp hb with rfl | hb
   ·exact hz
   ·rw [List.mem_singleton.mp hb]; exact Heap.lt_size (hk _ _ ho)
  ·rcases List.mem_cons.mp hb with rfl | hb
   ·exact hn
   ·exact absurd (List.mem_singleton.mp hb) hbS
 | false =>
  have hled : t.led = true := by rw [hl, hb]; rfl
  cases hdr : (!t.plain && decide (es.size > 1)) with
  | false =>
   (ktn_no "iN"; exact (by simp))
   have h1 : es.size ≤ 1 := by
    rcases hpl with h0 | h0
    ·ktn_no "o4"
    ·rw [h0] at hdr; simpa using hdr
   refine fin0 _ fun I h' hI hk hn hz => ?_
   have hIS : I ≠ S := fun e => by rw [e, ho] at hn; cases hn
   have W := zfM (prog := prog) (A := A) (ep := ep) hh hIS hf hs hb hled h1
   have hn' : (es.toList.map keyS).length = es.size := by rw [List.length_map, Array.length_toList]
   refine .of W hn' hk' ⟨hI, hk _ _ ho⟩ (by simp) hIS (fun b hb => ?_) (fun b hb hbS => ?_)
   ·rcases List.mem_cons.mp hb with rfl | hb
    ·exact hz
    ·rw [List.mem_singleton.mp hb]; exact Heap.lt_size (hk _ _ ho)
   ·rcases List.mem_cons.mp hb with rfl | hb
    ·exact hn
    ·exact absurd (List.mem_singleton.mp hb) hbS
  | true =>
   (ktn_no "iP"; exact (by simp))
   refine wpAny_bind (zaT _ _ _ (by simp) fun pl d hp => ?_)
   refine wpAny_bind (wpAny_newObj_type ?_ (by have h0 : (pl.map fun (j : Nat) => rawInt j).toArray.size ≤ sizeLine := by { simp only [List.size_toArray, List.length_map]; rw [hp.length_eq, List.length_range]; exact Nat.le_trans hsz (by decide) }; exact h0))
   have ho1 : (s.heap.push ⟨.type "tuple", none, .seq (pl.map fun (j : Nat) => rawInt j).toArray 0, #[]⟩).get? S = some (setO es ep t) := Heap.get?_push_of_some _ ho
   refine wpAny_bind (wpAny_setEpoch_of ho1 rfl hf ?_)
   refine wpAny_bind (wpAny_newObj_type (wpAny_pure ⟨_, rfl, "set_iterator", _, ⟨_, Heap.get?_push_size _ rfl, rfl⟩, slot_setit_next.lookup, ?_⟩))
   have hk : ∀ b o, s.heap.get? b = some o → ((s.heap.push ⟨.type "tuple", none, .seq (pl.map fun (j : Nat) => rawInt j).toArray 0, #[]⟩).push (siO (.ref s.heap.objs.size) ((0 : Nat) : Int) (.ref S) es.size ep)).get? b = some o := fun b o e => Heap.get?_push_of_some _ (Heap.get?_push_of_some _ e)
   have W := zdP (prog := prog) (A := A) (ep := ep) (I := (s.heap.push ⟨.type "tuple", none, .seq (pl.map fun (j : Nat) => rawInt j).toArray 0, #[]⟩).objs.size) (T := s.heap.objs.size) (S := S) hh (by rw [Heap.size_push]; exact Nat.ne_of_gt (Nat.lt_succ_of_lt hlt)) (by rw [Heap.size_push]; exact Nat.succ_ne_self _) hf hs hp
   have hn' : (pl.map fun j => keyS (es.getD j default)).length = es.size := by rw [List.length_map, hp.length_eq, List.length_range]
   refine q _ _ d (.of W hn' ((zed hp).trans hk') ⟨Heap.get?_push_size _ rfl, Heap.get?_push_of_some _ (Heap.get?_push_size _ rfl), hk _ _ ho⟩ (by simp) (by rw [Heap.size_push]; exact Nat.ne_of_gt (Nat.lt_succ_of_lt hlt)) (fun b hb => ?_) (fun b hb hbS => ?_)) hk
   ·show b < (Heap.push _ _).objs.size
    rw [Heap.size_push, Heap.size_push]
    simp only [Heap.size_push, List.mem_cons, List.not_mem_nil, or_false] at hb
    rcases hb with rfl | rfl | rfl
    ·exact Nat.lt_succ_self _
    ·exact Nat.lt_succ_of_lt (Nat.lt_succ_self _)
    ·exact Nat.lt_succ_of_lt (Nat.lt_succ_of_lt hlt)
   ·simp only [Heap.size_push, List.mem_cons, List.not_mem_nil, or_false] at hb
    rcases hb with rfl | rfl | rfl
    ·exact Heap.get?_none_of_le (Nat.le_succ _)
    ·exact Heap.get?_none_of_le (Nat.le_refl _)
    ·exact absurd rfl hbS
theorem zdT {S : Addr} {o : Obj} {ks : List PySem.Str} {Q : List Value → Shared → Prop} (hh : A.handled = none) (ho : s.heap.get? S = some o) (hS : SetOb w ks o) (hsz : ks.length ≤ 1000)
  (q : ∀ h' d tk vs ks', ks'.Perm ks → StrsAre vs ks' → (∀ b o, s.heap.get? b = some o → h'.get? b = some o) → s.toks ≤ tk → Q vs { s with heap := h', drawn := d, toks := tk }) :
  wpAny (model prog w) A (collect (.ref S)) Q E s := by
 have hlt := Heap.lt_size ho
 have hT : ∀ {s' : Shared}, s'.heap.get? S = some o → s'.TypeIs (.ref S) "set" := fun e => by obtain ⟨es, ep, t, _⟩ := hS; exact ⟨_, e, rfl⟩
 have hne : s.heap.objs.size ≠ S := Nat.ne_of_gt hlt
 unfold collect
 refine wpAny_bind (wpAny_runValue (codeAny_builtin PySem.F.entry_proto_collect ?_))
 rw [Around.under_plainId PySem.F.plain_proto_collect _]
 show wpAny _ A.in1 (newList [] >>= fun l => again (.builtin "list.__iadd__" ⟨[l, .ref S], []⟩)) _ _ s
 refine wpAny_bind (wpAny_newObj_type ?_)
 refine wpAny_pure ⟨plainId_quiet PySem.F.plain_list_iadd _, codeAny_builtin PySem.F.entry_list_iadd ?_⟩
 rw [Around.under_plainId PySem.F.plain_list_iadd _]
 have ho₁ : (s.heap.push { cls := .type "list", data := .seq ([] : List Value).toArray }).get? S = some o := Heap.get?_push_of_some _ ho
 have hS₁ : (s.heap.push { cls := .type "list", data := .seq ([] : List Value).toArray }).get? s.heap.objs.size = some { cls := .type "list", data := .seq ([] : List Value).toArray } := Heap.get?_push_size _ rfl
 show wpAny _ A.in1 (Builtin.List.listExtendWith (.ref s.heap.objs.size) (.ref S) (.ref s.heap.objs.size)) _ _ _
 unfold Builtin.List.listExtendWith
 refine wpAny_bind (wpAny_typeOf (hT ho₁) ?_)
 (ktn_no "iN"; exact (by simp [Builtin.List.listSameRef, hne]))
 refine wpAny_bind (zhe (A := A.in1) hh ho₁ hS hsz fun I h' d W hk => ?_)
 (refine x3_7 (W.walk) ?_; intro fp ks' St hp W hst hI hIS hfz hfn)
 refine wpAny_bind (wpAny_holding ?_)
 unfold Builtin.List.listLengthHint
 refine wpAny_bind (wpAny_specialOf (hT (hk _ _ ho₁)) zdp ?_)
 (generalize hid : ("set.__len__" : String) = id0; (fail_if_success (clear hid id0)); wp_delta; rw [show splitId id0 = some ("set", "__len__") from by subst hid; decide +kernel]; subst hid)
 refine wpAny_bind (wpAny_isInstance (b := true) (hT (hk _ _ ho₁)) (by rw [isSubtype_type]; kernel_rfl) ?_)
 show wpAny _ A.in1 (typeOf (Value.ref S) >>= _) _ _ _
 refine wpAny_bind (wpAny_typeOf (hT (hk _ _ ho₁)) ?_)
 refine wpAny_pure ?_
 show wpAny _ A.in1 (rule "list.extend.makes-room" >>= fun _ => Builtin.List.listTouch (.ref s.heap.objs.size) >>= fun _ =>
  again (.builtin "list.extend.loop" ⟨[.ref s.heap.objs.size, .ref I, .ref s.heap.objs.size], []⟩)) _ _ _
 refine wpAny_bind (wpAny_rule ?_)
 refine wpAny_bind ?_
 show wpAny _ A.in1 (updateSeq s.heap.objs.size (·.push .none) >>= fun _ => updateSeq s.heap.objs.size (·.pop)) _ _ _
 have hS₂ := hk _ _ hS₁
 refine wpAny_bind (wpAny_updateSeq hS₂ rfl ?_)
 have hS₃ := Heap.get?_update_self (Obj.mapSeq (·.push Value.none)) hS₂ rfl
 refine wpAny_updateSeq hS₃ rfl ?_
 have hS₄ := Heap.get?_update_self (Obj.mapSeq (·.pop)) hS₃ rfl
 have oth : ∀ b o, b ≠ s.heap.objs.size → h'.get? b = some o → ((h'.update s.heap.objs.size (Obj.mapSeq (·.push Value.none))).update s.heap.objs.size (Obj.mapSeq (·.pop))).get? b = some o :=
  fun b o hb e => (Heap.get?_update_other _ _ (Ne.symm hb)).trans ((Heap.get?_update_other _ _ (Ne.symm hb)).trans e)
 have hSf : s.heap.objs.size ∉ fp := fun hm => by
  have := hfn _ hm hne
  rw [hS₁] at this; cases this
 have hlen : ks'.length ≤ 1000 := by rw [hp.length_eq]; exact hsz
 refine wpAny_pure ⟨plainId_quiet PySem.F.plain_extend_loop _, codeAny_extend_loopS W (Nat.le_trans hlen (by decide)) _ hSf _ ks'.length 0 _ _ _ rfl (Nat.zero_le _)
  (W.frame 0 ({ s with heap := h', drawn := d } : Shared) _ s.toks hst (Nat.le_refl _) fun b hb o e => oth b o (fun h => hSf (h ▸ hb)) e) hS₄ (ItemsOf.nil _) fun s' acc' c' hm hS' hacc => ?_⟩
 show wpAny _ A (load s.heap.objs.size >>= _) _ _ s'
 refine wpAny_bind (wpAny_load hS' ?_)
 obtain ⟨h₉, g₉, d₉, k₉, o₉⟩ := s'
 have eg : g₉ = s.gens := hm.gens
 have ed : d₉ = d := hm.drawn
 have eo : o₉ = s.os := hm.os
 subst eg; subst ed; subst eo
 have et : s.toks ≤ k₉ := hm.toks
 refine wpAny_pure (q h₉ _ k₉ acc'.toList ks' hp ?_ (fun b o e => ?_) et)
 ·have hl : acc'.toList.length = ks'.length := by rw [Array.length_toList]; exact hacc.1
  have hal : ∀ v ∈ acc'.toList, ∃ x t, v = Value.str x t := fun v hv => by
   obtain ⟨j, hj⟩ := List.getElem?_of_mem hv
   obtain ⟨x, u, _, e⟩ := hacc.2 j v (by rw [← Array.getElem?_toList]; exact hj)
   exact ⟨x, u, e⟩
  have hm := strsAre_map _ hal
  rwa [show acc'.toList.map PyProof.Rows.strOf = ks' from List.ext_getElem (by simp [hl]) fun j h1 h2 => by
   have h3 : j < acc'.size := by simpa using h1
   (refine x2_2 (hacc.2 j acc'[j] (Array.getElem?_eq_getElem h3)) ?_; intro x u e1 e2)
   rw [List.getElem_map, Array.getElem_toList, e2]
   rw [List.getElem?_eq_getElem h2] at e1
   exact (Option.some.inj e1).symm] at hm
 ·have hb : b ≠ s.heap.objs.size := Nat.ne_of_lt (Heap.lt_size e)
  refine hm.heap b o (fun h => ?_) (oth b o hb (hk _ _ (Heap.get?_push_of_some _ e)))
  rcases List.mem_cons.mp h with h | h
  ·exact hb h
  ·rw [List.mem_singleton] at h
   subst h
   have := hfn b hI hIS
   rw [Heap.get?_push_of_some _ e] at this; cases this
end
theorem us_of {vs : List Value} {ss : List PySem.Str} (h : StrsAre vs ss) : ∃ us : List (PySem.Str × Tok), vs = strValues us ∧ us.map (·.1) = ss := by
 induction h with
 | nil => exact ⟨[], rfl, rfl⟩
 | cons x t h ih =>
  obtain ⟨us, a, b⟩ := ih
  exact ⟨(x, t) :: us, congrArg _ a, congrArg _ b⟩
theorem us_are : ∀ us : List (PySem.Str × Tok), StrsAre (strValues us) (us.map (·.1))
 | [] => .nil
 | (x, t) :: us => .cons x t (us_are us)
section
variable {w : World} {B : Heap} {L : Addr} {m cm : PySem.Str → Option Value} {cl : List (PySem.Str × Addr)} {news rest : List (Addr × Obj)} {s₀ s : Shared} {A : Around} {n : Nat} {E : Value → Shared → Prop}
 {h : Heap} {g : Array GenState} {d d₀ : Drawn} {tk tk₀ : Nat} {os : OsState}
theorem zfp {S : Addr} {i : Nat} {o : Obj} {ks : List PySem.Str} {Q : Value → Shared → Prop} (F : Fm w B L cl s₀ m cm news ⟨h, g, d₀, tk₀, os⟩) (hh : A.handled = none) (hi : news[i]? = some (S, o)) (hS : SetOb w ks o) (hsz : ks.length ≤ 1000)
  (q : ∀ N h' d' tk' us k, (us.map (·.1)).Perm ks → Fm w B L cl s₀ m cm ((N, lsO (strValues us) k) :: news) ⟨h', g, d', tk', os⟩ → Q (.ref N) ⟨h', g, d', tk', os⟩) : wpAny (M w) A (call (.builtin "sorted") [.ref S]) Q E ⟨h, g, d, tk, os⟩ := by
 refine call_function_entry kind_sorted plain_sorted entry_sorted (args_sorted1 _) ?_
 unfold Builtin.«sorted»
 refine wpAny_bind (m := checkCount "sorted" 1 1 _) (wpAny_pure ?_)
 refine wpAny_bind (zdT (A := A.in1) (s := ⟨h, g, d, tk, os⟩) hh (F.at i hi) hS hsz fun h₁ d₁ tk₁ vs ks' hp hv hk _ => ?_)
 (refine x1_2 (us_of hv) ?_; intro ys eqX1 eqX2; subst eqX1; subst eqX2)
 have hl : (strValues ys).length ≤ 1000 := by have := hp.length_eq; simp at this; simp [strValues]; ktn_no "o4"
 refine wpAny_bind (wpAny_newList ?_ (Nat.le_trans hl (by decide)))
 have F₁ : Fm w B L cl s₀ m cm news ⟨h₁, g, d₁, tk₁, os⟩ := F.keepAll hk
 (refine x0_5 (Fm.freshC (a := h₁.objs.size) F₁ (Nat.le_refl _)) ?_; intro a1 a2 a3 a4 a5)
 have hoL : (h₁.push (seqObj "list" (strValues ys).toArray 0)).get? h₁.objs.size = some (seqObj "list" (strValues ys).toArray 0) := Heap.get?_push_size _ rfl
 refine wpAny_bind (wpAny_holding (wpAny_call_entry slot_list_sort ⟨_, hoL, rfl⟩ entry_list_sort (zck (us_are ys) hoL (Nat.le_trans hl (by decide)) fun out b1 => ⟨_, rfl, ?_⟩) (args_list_sort _)))
 obtain ⟨e, he⟩ := sortedHeap_at (vs := strValues ys) (out := out) hoL
 have hpm := Array.perm_iff_toList_perm.mp b1
 obtain ⟨zs, hz, hzm⟩ : ∃ zs : List (PySem.Str × Tok), out.toList = strValues zs ∧ (zs.map (·.1)).Perm (ys.map (·.1)) := by
  (refine x1_2 (us_of (strsAre_map out.toList fun v hv => (us_are ys).all v (hpm.mem_iff.mp hv))) ?_; intro zs hz hzs)
  refine ⟨zs, hz, ?_⟩
  rw [hzs, ← (us_are ys).strs]
  exact hpm.map _
 have eo : out = (strValues zs).toArray := by rw [← hz]
 subst eo
 refine wpAny_pure ⟨_, rfl, q _ _ _ _ zs e (hzm.trans hp) ?_⟩
 refine Fm.addC (F₁.keepAll (d := d₁) (tk := tk₁) (os := os) fun b ob eb => ?_) he a1 a2 a3 a4 a5
 have hb : b < h₁.objs.size := Heap.lt_size eb
 rw [sortedHeap_old (Nat.ne_of_lt hb) (by rw [size_push']; exact Nat.lt_succ_of_lt hb)]
 exact Heap.get?_push_of_some _ eb
theorem zf1 (us : List (PySem.Str × Tok)) : keysOfS (fun j => (us.getD j default).1) us.length = (us.map (·.1)).foldl addK [] := by
 unfold keysOfS
 rw [zau us (fun z => z.1)]
theorem zhp {x : Addr} {i : Nat} {us : List (PySem.Str × Tok)} {k : Nat} {Q : Value → Shared → Prop} (F : Fm w B L cl s₀ m cm news ⟨h, g, d₀, tk₀, os⟩) (hh : A.handled = none) (hi : news[i]? = some (x, lsO (strValues us) k)) (hsz : us.length ≤ 1000)
  (q : ∀ S o h' tk', SetOb w ((us.map (·.1)).foldl addK []) o → Fm w B L cl s₀ m cm ((S, o) :: news) ⟨h', g, d, tk', os⟩ → Q (.ref S) ⟨h', g, d, tk', os⟩) : wpAny (M w) A (call (.type "set") [.ref x]) Q E ⟨h, g, d, tk, os⟩ := by
 have hn : (strValues us).toArray.size = us.length := by simp [strValues]
 refine zd3 (s := ⟨h, g, d, tk, os⟩) (items := (strValues us).toArray) (val := fun j => (us.getD j default).1) hh (isL (F.at i hi)) (fun j v e => ?_) (by rw [hn]; exact Nat.lt_of_le_of_lt (Nat.succ_le_succ hsz) (by decide)) fun h' tk' o ho hS hk => ?_
 ·have e' : (strValues us)[j]? = some v := by simpa using e
  simp only [strValues, List.getElem?_map] at e'
  cases hu : us[j]? with
  | none => rw [hu] at e'; cases e'
  | some p =>
   rw [hu] at e'
   refine ⟨p.2, ?_⟩
   rw [List.getD_eq_getElem?_getD, hu]
   exact (Option.some.inj e').symm
 rw [hn, zf1] at hS
 have F₁ : Fm w B L cl s₀ m cm news ⟨h', g, d, tk', os⟩ := F.keepAll fun b ob eb => hk b ob (Heap.lt_size eb) eb
 (refine x0_5 (Fm.freshC (a := h.objs.size) F (Nat.le_refl _)) ?_; intro a1 a2 a3 a4 a5)
 exact q _ _ _ _ hS (Fm.addC F₁ ho a1 a2 a3 a4 a5)
end
noncomputable def less1 (x : PySem.Str) (cm : PySem.Str → Option Value) : PySem.Str → Option Value := fun y => if y = x then none else cm y
section
variable {w : World} {B : Heap} {L : Addr} {m : PySem.Str → Option Value} {cl : List (PySem.Str × Addr)} {cm : PySem.Str → Option Value} {news : List (Addr × Obj)} {s₀ s : Shared} {A : Around} {E : Value → Shared → Prop}
theorem zaz {x n : PySem.Str} {c c' : Addr} {cl' : List (PySem.Str × Addr)} (e : ((x, c) :: cl').lookup n = some c') : (n = x ∧ c' = c) ∨ (n ≠ x ∧ cl'.lookup n = some c') := by
 rw [List.lookup_cons] at e
 cases hb : n == x with
 | true => rw [hb] at e; simp only at e; exact .inl ⟨beq_iff_eq.mp hb, (Option.some.inj e).symm⟩
 | false => rw [hb] at e; simp only at e; exact .inr ⟨(fun q => by rw [q, beq_self_eq_true] at hb; cases hb), e⟩
theorem zgm {x : PySem.Str} {scope : Scope} {env : Env} {cl' : List (PySem.Str × Addr)} {P : Env → Shared → Prop} (F : Fm w B L cl s₀ m cm news s)
  (hone : ∀ z acc, cellsFrom z scope.names acc = (x, z) :: acc) (hpush : ∀ h, pushCells h scope.names = h.push { cls := .type "cell", data := .cell none })
  (hcl : ∀ n c, cl'.lookup n = some c → cl.lookup n = some c)
  (h : ∀ C c s₁, s₁.heap.objs.size > s.heap.objs.size → Fm w (under s news) C ((x, c) :: cl') s (fun _ => none) (less1 x cm) news s₁ → (under s news).get? c = none → szTop ≤ c → P (newEnv scope C env.globals ((x, c) :: cl') env.qual none .none (some env) builtinsNs) s₁) :
  wpAny (M w) A (newFunctionEnv scope env.globals cl' [] env.qual none .none (some env)) P E s := by
 simp only [newFunctionEnv]
 refine wpAny_bind (wpAny_alloc ?_)
 refine wpAny_bind (wpAny_layCells _ (fun name kind cells => by cases hkc : kind == NameKind.cell <;> simp [hkc]) _ _ _ _ ?_)
 simp only [hone, hpush, Heap.size_push]
 refine wpAny_bind ?_
 rw [List.forIn_nil]
 refine wpAny_pure (wpAny_pure ?_)
 have hz : szTop ≤ s.heap.objs.size := Nat.le_trans F.szL (Nat.le_of_lt F.ns.lt)
 have hk : ∀ b o, s.heap.get? b = some o → ((s.heap.push { cls := .type (if (some env).isSome then "dict" else "frame"), data := .dict #[] }).push { cls := .type "cell", data := .cell none }).get? b = some o := fun b o e => Heap.get?_push_of_some _ (Heap.get?_push_of_some _ e)
 have hns : ((s.heap.push { cls := .type (if (some env).isSome then "dict" else "frame"), data := .dict #[] }).push { cls := .type "cell", data := .cell none }).Ns s.heap.objs.size fun _ => none := (Heap.Ns.new s.heap _).keeps fun b o e => Heap.get?_push_of_some _ e
 have hcc : ((s.heap.push { cls := .type (if (some env).isSome then "dict" else "frame"), data := .dict #[] }).push { cls := .type "cell", data := .cell none }).IsCell (s.heap.objs.size + 1) none := by
  have e : (s.heap.push { cls := .type (if (some env).isSome then "dict" else "frame"), data := .dict #[] }).objs.size = s.heap.objs.size + 1 := Heap.size_push ..
  exact ⟨{ cls := .type "cell", data := .cell none }, by rw [← e]; exact Heap.get?_push_size _ rfl, rfl⟩
 have old : ∀ n c, cl'.lookup n = some c → c < s.heap.objs.size := fun n c e => by
  (refine x1_2 (F.ce n c (hcl n c e)) ?_; intro oc hoc _)
  exact Heap.lt_size hoc
 refine h s.heap.objs.size (s.heap.objs.size + 1) _ ?_ (F.enter (tk := s.toks) rfl hns hk ?_ (fun n c e => ?_) (fun n c e => ?_) fun n n' c e e' => ?_) ?_ (Nat.le_succ_of_le hz)
 ·show (Heap.push _ _).objs.size > _
  rw [Heap.size_push, Heap.size_push]; ktn_no "o4"
 ·rw [Heap.size_push, Heap.size_push]; ktn_no "o4"
 ·rcases zaz e with ⟨rfl, rfl⟩ | ⟨hn, e⟩
  ·unfold less1; rw [if_pos rfl]; exact hcc
  ·unfold less1; rw [if_neg hn]; exact (F.ce n c (hcl n c e)).keeps hk
 ·rcases zaz e with ⟨rfl, rfl⟩ | ⟨hn, e⟩
  ·refine ⟨Nat.succ_ne_self _, fun q => ?_, fun t => absurd (tab_lt t) (Nat.not_lt.mpr (Nat.le_succ_of_le hz))⟩
   (refine x1_2 (List.mem_map.mp q) ?_; intro p hp e')
   have := Heap.lt_size (F.nw p hp).1
   rw [e'] at this
   exact absurd this (Nat.not_lt.mpr (Nat.le_succ _))
  ·(refine x0_3 (F.cd n c (hcl n c e)) ?_; intro a b c')
   exact ⟨Nat.ne_of_lt (old n c e), b, c'⟩
 ·rcases zaz e with ⟨q1, q2⟩ | ⟨_, e1⟩ <;> rcases zaz e' with ⟨q3, q4⟩ | ⟨_, e2⟩
  ·rw [q1, q3]
  ·exact absurd (old _ _ e2) (by rw [q2]; exact Nat.not_lt.mpr (Nat.le_succ _))
  ·exact absurd (old _ _ e1) (by rw [q4]; exact Nat.not_lt.mpr (Nat.le_succ _))
  ·exact F.cp n n' c (hcl _ _ e1) (hcl _ _ e2)
 ·cases q : (under s news).get? (s.heap.objs.size + 1) with
  | none => rfl
  | some o => exact absurd (Heap.lt_size q) (by show ¬ _ < (hideAll s.heap _).objs.size; rw [hideAll_size]; ktn_no "o4")
variable {elt target iter : Expr} {ifs : List Expr} {rest : List Comprehension} {scope : Scope} {pos py spos : Pos} {env : Env} {x y : PySem.Str}
theorem zft {Q : Value → Shared → Prop} (hk : captOk scope env.cells = true) (hLc : env.cells = cl) (hone : ∀ z acc, cellsFrom z scope.names acc = (x, z) :: acc) (hpush : ∀ h, pushCells h scope.names = h.push { cls := .type "cell", data := .cell none }) (hkind : scope.kind = .function)
  (hnames : (scope.names.all fun x => decide (x.2 = .local → scope.names.lookup x.1 = some .local)) = true) (hs : ∀ x, foldedSetIterable iter env x = pure x)
  (h : wpAny (M w) A (eval iter env) (fun x' s₁ => wpAny (M w) A (pyIter x') (fun it s₂ => ∃ news, Fm w B L cl s₀ m cm news s₂ ∧
   ∀ D C c s₃ s₄, s₃.heap.objs.size > D → Fm w B L cl s₀ m cm ((D, lsO [] 0) :: news) s₃ → Fm w (under s₃ ((D, lsO [] 0) :: news)) C ((x, c) :: capt scope env.cells) s₃ (fun _ => none) (less1 x cm) ((D, lsO [] 0) :: news) s₄ →
    (under s₃ ((D, lsO [] 0) :: news)).get? c = none → szTop ≤ c →
    CompS w A (.ListComp elt (⟨target, iter, ifs, 0⟩ :: rest) scope pos) 0 it (.ref D) (compEnvC scope ((x, c) :: capt scope env.cells) C env) (LcB w B L m cl cm ((D, lsO [] 0) :: news) s₀ s₃ C (Q (.ref D))) s₄) NoE s₁) NoE s) :
  wpAny (M w) A (eval (.ListComp elt (⟨target, iter, ifs, 0⟩ :: rest) scope pos) env) Q NoE s := by
 rw [eval_ListComp]
 refine wpAny_comprehension_free (use := none) rfl hs (zbY hk) hkind (fun x hx => of_decide_eq_true (List.all_eq_true.mp hnames x hx)) (wpAny_mono h (fun xv s₁ h₁ => wpAny_mono h₁ (fun it s₂ h₂ => ?_) fun _ _ e => e) fun _ _ e => e)
 (refine x1_2 (h₂) ?_; try clear h₂; intro news F k)
 have F' := F.push (lsO [] 0) (tk := s₂.toks)
 refine wpAny_newObj_type ?_
 refine zgm (env := env) F' hone hpush (by subst hLc; exact zc5 hk) fun C c s₄ hz G hn hc => ?_
 refine codeAny_mono (k _ C c _ s₄ (by show _ > _; rw [Heap.size_push]; exact Nat.lt_succ_self _) F' G hn hc) fun r s' hr => ?_
 cases r with
 | error x => exact hr.elim
 | ok f => exact hr.out F'
end
noncomputable abbrev ltFor : Stmt := body_law_text.getD 1 default
noncomputable abbrev ltT : Expr := (forParts ltFor).1
noncomputable abbrev ltB : List Stmt := (forParts ltFor).2.2.1
noncomputable abbrev ltFor2 : Stmt := ltB.getD 1 default
noncomputable abbrev ltT2 : Expr := (forParts ltFor2).1
noncomputable abbrev ltB2 : List Stmt := (forParts ltFor2).2.2.1
theorem e59 : (Str.ofString ";" : PySem.Str) = ⟨#[59]⟩ := by decide
noncomputable def reachF (mx : Int) (ws : List PySem.Str) (p : Nat) : Int := (p : Int) + (rowV mx (ws.drop p)).getD 0 0
theorem zfQ (x y : PySem.Str) : 0 < (Txt.split x y).length := by
 unfold Txt.split
 split
 ·simp
 ·split
  ·simp
  ·rw [length_partsBetween]; ktn_no "o4"
section
variable {w : World} {B : Heap} {L I : Addr} {m : PySem.Str → Option Value} {cm : PySem.Str → Option Value} {own rest : List (Addr × Obj)} {s₀ s : Shared} {A : Around} {n : Nat} {Q : Flow → Shared → Prop} {x y : Addr} {mx : Int} {us : List (PySem.Str × Tok)} {ky : Nat} {wl rl : Addr} {nw : Nat} {tw : Tok} {tv mv : Value}
theorem rg0 {v : Value} {j : Nat} (h : ∃ t, v = .int ((0 : Int) + (j : Int) * 1) t) : ∃ t, v = .int (j : Int) t := by
 obtain ⟨t, h⟩ := h
 exact ⟨t, by rw [h, Int.zero_add, Int.mul_one]⟩
theorem rg1 {v : Value} {i j : Nat} (h : ∃ t, v = .int (((i : Nat) : Int) + (j : Int) * 1) t) : ∃ t, v = .int ((i + j : Nat) : Int) t := by
 obtain ⟨t, h⟩ := h
 exact ⟨t, by rw [h, Int.mul_one]; rfl⟩
theorem zfg (R : Room (n + 50) A) (hus : ∀ z ∈ us, Word 59 (e0, z.1)) (hul : us.length ≤ 50) :
  ∀ (k i : Nat) (m : PySem.Str → Option Value) (own : List (Addr × Obj)) (st : List PySem.Str × List (PySem.Str × PySem.Str)) (o : Obj) (s : Shared),
   i + k = us.length → o = itO y i → VfP x mx ⟨#[59]⟩ st.1 st.2 own → (∀ z ∈ st.2, Word 59 z) → st.1.length ≤ i → st.2.length ≤ i →
   Fm w B L [] s₀ m cm ((I, o) :: (y, lsO (strValues us) ky) :: (own ++ rest)) s → m "folder" = some (.ref x) →
   (∀ m' own' s', (∀ z : PySem.Str, z ≠ "word" → m' z = m z) → VfP x mx ⟨#[59]⟩ ((us.drop i).foldl (fun st v => chunk mx st v.1) st).1 ((us.drop i).foldl (fun st v => chunk mx st v.1) st).2 own' → Fm w B L [] s₀ m' cm (own' ++ rest) s' → Q .next s') →
   LoopC w A ltT2 (.ref I) ltB2 [] (callEnv fd_law_text L a_law_text) Q s := by
 intro k
 induction k with
 | zero =>
  intro i m own st o s hi ho P hw h1 h2 F hf hq
  refine zab ?_
  have S := zag (w := w) I y (strValues us)
  have hsd := F.at 1 rfl
  obtain ⟨h, g, dd, tk, os⟩ := s
  refine F.endI S R.handled (by simp [strValues]; exact hi) ho ⟨_, _, hsd, rfl⟩ fun h' tk' F' => ?_
  dsimp only
  refine wpAny_execs_nil (hq m own _ (fun _ _ => rfl) ?_ (F'.drop 1))
  rw [List.drop_eq_nil_of_le (i := i) (as := us) (Nat.le_of_eq hi.symm)]
  exact P
 | succ k ih =>
  intro i m own st o s hi ho P hw h1 h2 F hf hq
  refine zab ?_
  have S := zag (w := w) I y (strValues us)
  have hsd := F.at 1 rfl
  obtain ⟨h, g, dd, tk, os⟩ := s
  have hlt : i < us.length := Nat.lt_of_lt_of_le (Nat.lt_add_of_pos_right (Nat.succ_pos k)) (Nat.le_of_eq hi)
  refine F.nextI (d := dd) S (by simp [strValues]; exact hlt) ho ⟨_, _, hsd, rfl⟩ fun v h₁ k₁ o₁ hv ho₁ F₁ => ?_
  have e : us.drop i = us[i] :: us.drop (i + 1) := List.drop_eq_getElem_cons hlt
  have hv' : v = .str us[i].1 us[i].2 := by
   simp only [strValues, List.getElem?_map, List.getElem?_eq_getElem hlt] at hv
   exact (Option.some.inj hv).symm
  subst hv'
  clear hv hsd F
  dsimp only
  refine wpAny_pure (wpAny_assign_Name ?_)
  refine st_L F₁ (by kernel_rfl) (by kernel_rfl!) (by kernel_rfl) fun h₂ F₂ => ?_
  clear F₁
  have F₃ := F₂.perm (news' := own ++ ((I, o₁) :: (y, lsO (strValues us) ky) :: rest)) (by ktn_no "perm_tac")
  have P' := P
  obtain ⟨dv, kd, es, u1, u2, u3, u4, ll, ac, l, nl, oa, rfl, hE, hl1, hP⟩ := P
  clear F₂
  have hm1 : upd m "word" (.str us[i].1 us[i].2) "folder" = some (.ref x) := hf
  ktn_no "ast"
  ktn_no "y"
  refine zcc F₃.K (F₃.at 0 rfl) (F₃.at 1 rfl) hE (by ktn_no "k_ev") (by ktn_no "k_ev") (by kernel_rfl) ?_
  ktn_no "y"
  refine zbw (n := n) (R.less (by ktn_no "le")) (F₃.toks _) P' (by decide) (by decide +kernel) hw (hus _ (List.getElem_mem hlt)) (Nat.le_trans h2 (Nat.le_trans (Nat.le_of_lt hlt) (Nat.le_trans hul (by decide)))) (Nat.le_trans h1 (Nat.le_trans (Nat.le_of_lt hlt) (Nat.le_trans hul (by decide)))) fun own' s' P₄ F₄ => ?_
  obtain ⟨h₄, g₄, d₄, k₄, o₄⟩ := s'
  clear F₃ hE
  ktn_no "y"
  have hc := zeU mx st us[i].1
  have hw' := zcs mx st us[i].1 hw (hus _ (List.getElem_mem hlt))
  refine ih (i + 1) _ own' (chunk mx st us[i].1) o₁ _ ((Nat.succ_add_eq_add_succ i k).trans hi) ho₁ P₄ hw' (Nat.le_trans hc.1 (Nat.succ_le_succ h1)) (Nat.le_trans hc.2 (Nat.succ_le_succ h2)) (F₄.perm (by ktn_no "perm_tac")) hm1 fun m' own'' s'' hm' P₅ F₅ => ?_
  refine hq m' own'' s'' (fun z hz => (hm' z hz).trans (if_neg hz)) ?_ F₅
  rw [e, List.foldl_cons]
  exact P₅
theorem text_go (R : Room (n + 60) A) (hus : ∀ z ∈ us, Word 59 (e0, z.1)) (hu1 : ∀ z ∈ us, z.1.length ≤ 100) (hul : us.length = 5) (hm : (wl, lsO (strValues us) nw) ∈ rest) :
  ∀ (k i : Nat) (m : PySem.Str → Option Value) (rs : List (Int × Tok)) (kk : Nat) (o : Obj) (s : Shared),
   i + k = 5 → ObR 0 5 i o → rs.map (·.1) = (List.range i).map (reachF mx (us.map (·.1))) →
   Fm w B L [] s₀ m cm ((I, o) :: (rl, lsO (inV rs) kk) :: rest) s → m "words" = some (.ref wl) → m "width" = some (.int mx tw) → m "reach" = some (.ref rl) → m "text" = some tv → m "marks" = some mv →
   (∀ m' rs kk' s', rs.map (·.1) = (List.range 5).map (reachF mx (us.map (·.1))) → m' "reach" = some (.ref rl) → m' "text" = some tv → m' "marks" = some mv → Fm w B L [] s₀ m' cm ((rl, lsO (inV rs) kk') :: rest) s' → Q .next s') →
   LoopC w A ltT (.ref I) ltB [] (callEnv fd_law_text L a_law_text) Q s := by
 intro k
 induction k with
 | zero =>
  intro i m rs kk o s hi ho hx F m1 m2 m3 x1 x2 hq
  refine zab ?_
  have S := zaf (w := w) I 0 1 5
  obtain ⟨h, g, dd, tk, os⟩ := s
  refine F.endI S R.handled hi ho trivial fun h' tk' F' => ?_
  dsimp only
  have : i = 5 := hi
  subst this
  exact wpAny_execs_nil (hq m rs kk _ hx m3 x1 x2 F')
 | succ k ih =>
  intro i m rs kk o s hi ho hx F m1 m2 m3 x1 x2 hq
  refine zab ?_
  have S := zaf (w := w) I 0 1 5
  obtain ⟨h, g, dd, tk, os⟩ := s
  have hi5 : i < 5 := Nat.lt_of_lt_of_le (Nat.lt_add_of_pos_right (Nat.succ_pos k)) (Nat.le_of_eq hi)
  refine F.nextI (d := dd) S hi5 ho trivial fun v h₁ k₁ o₁ hv ho₁ F₁ => ?_
  obtain ⟨ti, hv⟩ := rg0 hv
  subst hv
  dsimp only
  refine wpAny_pure (wpAny_assign_Name ?_)
  refine st_L F₁ (by kernel_rfl) (by kernel_rfl!) (by kernel_rfl) fun h₂ F₂ => ?_
  clear F F₁
  have hm1 : upd m "start" (.int i ti) "words" = some (.ref wl) := m1
  have hm2 : upd m "start" (.int i ti) "width" = some (.int mx tw) := m2
  have hm3 : upd m "start" (.int i ti) "reach" = some (.ref rl) := m3
  have hm4 : upd m "start" (.int i ti) "start" = some (.int i ti) := rfl
  have hm5 : upd m "start" (.int i ti) "text" = some tv := x1
  have hm6 : upd m "start" (.int i ti) "marks" = some mv := x2
  revert hm1 hm2 hm3 hm4 hm5 hm6 F₂
  generalize upd m "start" (.int i ti) = m₂
  intro F₂ m1 m2 m3 m4 m5 m6
  ktn_no "ast"
  ktn_no "y"
  refine vf_make (n := n) (R.less (by ktn_no "le")) (F₂.toks _) fun x own s' P F₃ => ?_
  rw [e59] at P
  obtain ⟨h₃, g₃, d₃, k₃, o₃⟩ := s'
  clear F₂
  ktn_no "y"
  rename_i h₄ F₄
  have n1 : upd m₂ "folder" (.ref x) "words" = some (.ref wl) := m1
  have n2 : upd m₂ "folder" (.ref x) "width" = some (.int mx tw) := m2
  have n3 : upd m₂ "folder" (.ref x) "reach" = some (.ref rl) := m3
  have n4 : upd m₂ "folder" (.ref x) "start" = some (.int i ti) := m4
  have n5 : upd m₂ "folder" (.ref x) "folder" = some (.ref x) := rfl
  have n6 : upd m₂ "folder" (.ref x) "text" = some tv := m5
  have n7 : upd m₂ "folder" (.ref x) "marks" = some mv := m6
  revert n1 n2 n3 n4 n5 n6 n7 F₄
  generalize upd m₂ "folder" (.ref x) = m₄
  intro F₄ n1 n2 n3 n4 n5 n6 n7
  clear F₃ m1 m2 m3 m4 m5 m6
  refine wFor ?_ (fun x => rfl)
  refine za7 ?_
  ktn_no "y"
  refine evalPart_some_step ?_
  ktn_no "y"
  refine evalPart_none_step ?_
  obtain ⟨j, hj⟩ := List.getElem?_of_mem (show (wl, lsO (strValues us) nw) ∈ own ++ ((I, o₁) :: (rl, lsO (inV rs) kk) :: rest) by simp [hm])
  refine .mk (F₄.toks _) hj (by simp [strValues]; ktn_no "o4") (.int _ _) .none fun y h₅ ky F₆ => ?_
  rw [slicePick_from'] at F₆
  rw [show (List.drop i (strValues us).toArray.toList).toArray.toList = strValues (us.drop i) by simp [strValues]] at F₆
  clear F₄ hj
  refine zak F₆ (i := 0) rfl fun I₂ h₇ F₇ => ?_
  clear F₆
  have hus' : ∀ z ∈ us.drop i, Word 59 (e0, z.1) := fun z hz => hus z (List.mem_of_mem_drop hz)
  refine zfg (n := n) (cm := cm) (us := us.drop i) (x := x) (y := y) (mx := mx) (ky := ky) (rest := (I, o₁) :: (rl, lsO (inV rs) kk) :: rest) (R.less (by ktn_no "le")) hus' (by rw [List.length_drop, hul]; exact Nat.le_trans (Nat.sub_le 5 i) (by decide)) (us.drop i).length 0 m₄ own ([], []) _ _ (Nat.zero_add _) rfl P (fun z hz => by simp at hz) (Nat.le_refl _) (Nat.le_refl _) (F₇.perm (by ktn_no "perm_tac")) n5 fun m' own' s' hm' P₈ F₈ => ?_
  obtain ⟨h₈, g₈, d₈, k₈, o₈⟩ := s'
  have q1 : m' "words" = some (.ref wl) := (hm' _ (by decide)).trans n1
  have q2 : m' "width" = some (.int mx tw) := (hm' _ (by decide)).trans n2
  have q3 : m' "reach" = some (.ref rl) := (hm' _ (by decide)).trans n3
  have q5 : m' "folder" = some (.ref x) := (hm' _ (by decide)).trans n5
  have q4 : m' "start" = some (.int i ti) := (hm' _ (by decide)).trans n4
  have q6 : m' "text" = some tv := (hm' _ (by decide)).trans n6
  have q7 : m' "marks" = some mv := (hm' _ (by decide)).trans n7
  clear F₇ n1 n2 n3 n4 n5 n6 n7 P
  dsimp only
  ktn_no "y"
  have F₉ := F₈.perm (news' := (rl, lsO (inV rs) kk) :: (own' ++ (I, o₁) :: rest)) (by ktn_no "perm_tac")
  clear F₈
  refine Calls.getMethod_list_append (F₉.at 0 rfl) rfl rfl ?_
  ktn_no "y"
  have P' := P₈
  obtain ⟨dv, kd, es, u1, u2, u3, u4, ll, ac, l0, nl, oa, rfl, hE, hl1, hP⟩ := P₈
  have F₁₀ := F₉.perm (news' := ((x, vfO dv) :: (dv, dictOf es kd) :: (ll, lsO (strValues l0) nl) :: oa) ++ ((rl, lsO (inV rs) kk) :: (I, o₁) :: rest)) (by ktn_no "perm_tac")
  ktn_no "y"
  refine zcc F₁₀.K (F₁₀.at 0 rfl) (F₁₀.at 1 rfl) hE (by ktn_no "k_ev") (by ktn_no "k_ev") (by kernel_rfl) ?_
  ktn_no "y"
  have ef : (us.drop i).foldl (fun st v => chunk mx st v.1) ([], []) = ((us.map (·.1)).drop i).foldl (fun st v => chunk mx st v) ([], []) := by rw [← List.map_drop, List.foldl_map]
  simp only [List.drop_zero] at P' hl1 hP
  rw [ef] at P' hl1 hP
  obtain ⟨f1, f2, f3, f4⟩ := zcv mx ((us.map (·.1)).drop i) ([], []) (fun z hz => by simp at hz) fun y hy => by
   (refine x1_2 (List.mem_map.mp (List.mem_of_mem_drop hy)) ?_; intro z hz eqX2; subst eqX2)
   exact hus z hz
  have hne : (us.map (·.1)).drop i ≠ [] := by
   intro z
   have := congrArg List.length z
   rw [List.length_drop, List.length_map, hul] at this
   exact absurd this (Nat.ne_of_gt (Nat.sub_pos_of_lt hi5))
  have hj := zdU (mx := mx) (ws := (us.map (·.1)).drop i) (by rw [List.length_drop, List.length_map, hul]; exact Nat.le_trans (Nat.sub_le 5 i) (by decide)) fun y hy => by
   (refine x1_2 (List.mem_map.mp (List.mem_of_mem_drop hy)) ?_; intro z hz eqX2; subst eqX2)
   exact hu1 z hz
  simp only [List.length_drop, List.length_map, List.length_nil, Nat.zero_add, hul] at f2 f3
  refine zfc (n := n) (c := 59) (R.less (by ktn_no "le")) (F₁₀.toks _) P' (by decide +kernel) (f4 (.inl hne)) f1 (Nat.le_trans f3 (Nat.le_trans (Nat.sub_le 5 i) (by decide))) (Nat.le_trans f2 (Nat.le_trans (Nat.sub_le 5 i) (by decide))) hj.1 fun t₁ own2 s' P₁₁ F₁₁ => ?_
  obtain ⟨h₁₁, g₁₁, d₁₁, k₁₁, o₁₁⟩ := s'
  clear F₉ F₁₀
  ktn_no "y"
  refine GM.split ?_
  ktn_no "y"
  refine zdy (by decide) (Nat.le_trans hj.2 (by decide)) fun lp k₁₂ hlp => ?_
  have hlp : lp.map (·.1) = Txt.split (Txt.join nlS (rowStrs mx ((us.map (·.1)).drop i))) nlS := hlp
  have F₁₂ := F₁₁.push1 (g := g₁₁) (d := d₁₁) (tk := k₁₂) (lsO (strValues lp) 0)
  clear F₁₁
  have hl0 : 0 < lp.length := by
   have h0 := zfQ (Txt.join nlS (rowStrs mx ((us.map (·.1)).drop i))) nlS
   have := congrArg List.length hlp
   rw [List.length_map] at this
   rw [this]; exact h0
  ktn_no "y"
  refine zaI (k := 0) (v := .str lp[0].1 lp[0].2) (F₁₂.at 0 rfl) (by ktn_no "om") (by simp [strValues, List.getElem?_eq_getElem hl0]) ?_
  refine GM.count ?_
  ktn_no "y"
  refine SC.count ?_
  ktn_no "y"
  refine app_at 1 (F₁₂.perm (news' := (h₁₁.objs.size, lsO (strValues lp) 0) :: (rl, lsO (inV rs) kk) :: (own2 ++ (I, o₁) :: rest)) (by ktn_no "perm_tac")) rfl (by have := congrArg List.length hx; simp at this; simp; exact this ▸ Nat.le_trans (Nat.le_of_lt hi5) (by decide)) fun h₂₁ F₂₁ => ?_
  ktn_no "y"
  dsimp only [List.set] at F₂₁
  have F₂₂ := (F₂₁.erase 0).perm (news' := own2 ++ ((I, o₁) :: (rl, lsO (inV (rs ++ [((i : Int) + Txt.count lp[0].1 (Str.ofString ";"), k₁₂ + 1 + 1 + 1)])) (kk + 1)) :: rest)) (by simp only [List.eraseIdx, inV, List.map_append, List.map_cons, List.map_nil]; ktn_no "perm_tac")
  have F₂₃ := F₂₂.sub (List.sublist_append_right own2 _)
  refine ih (i + 1) m' _ (kk + 1) o₁ _ ((Nat.succ_add_eq_add_succ i k).trans hi) ho₁ ?_ (F₂₃.toks _) q1 q2 q3 q6 q7 hq
  rw [List.range_succ, List.map_append, List.map_append, hx]
  congr 1
  simp only [List.map_cons, List.map_nil]
  unfold reachF rowV
  rw [← hlp, List.map_map, List.getD_eq_getElem?_getD, List.getElem?_map, List.getElem?_eq_getElem hl0]
  rfl
end
noncomputable def queueGo (rs : List Int) (ms : List PySem.Str) (p : Nat) (t : PySem.Str) : PySem.Str := t ++ (Txt.mul cCl (rs.count (p : Int)) ++ cOp ++ ms.getD p default)
noncomputable def textF (rs : List Int) (ms : List PySem.Str) : PySem.Str := (List.range 5).foldl (fun t p => queueGo rs ms p t) e0 ++ Txt.mul cCl (rs.count (5 : Int))
noncomputable abbrev tqFor : Stmt := body_law_text.getD 2 default
noncomputable abbrev tqT : Expr := (forParts tqFor).1
noncomputable abbrev tqB : List Stmt := (forParts tqFor).2.2.1
section
variable {w : World} {B : Heap} {L I : Addr} {m : PySem.Str → Option Value} {cl : List (PySem.Str × Addr)} {cm : PySem.Str → Option Value} {rest : List (Addr × Obj)} {s₀ s : Shared} {A : Around} {E : Value → Shared → Prop} {n : Nat} {ra ma : Addr} {rs : List (Int × Tok)} {ms : List (PySem.Str × Tok)} {k1 k2 : Nat}
theorem tq_go {Q : Flow → Shared → Prop} (R : Room (n + 5) A) (hrs : rs.length ≤ 6) (hms : ms.length = 5) (hml : ∀ y ∈ ms, y.1.length ≤ 10) (hr : (ra, lsO (inV rs) k1) ∈ rest) (hm : (ma, lsO (strValues ms) k2) ∈ rest) :
  ∀ (k i : Nat) (m : PySem.Str → Option Value) (text : PySem.Str) (o : Obj) (s : Shared) (t : Tok),
   i + k = 5 → ObR 0 5 i o → text = (List.range i).foldl (fun t p => queueGo (rs.map (·.1)) (ms.map (·.1)) p t) e0 → text.length ≤ 100 * i →
   Fm w B L [] s₀ m cm ((I, o) :: rest) s → m "reach" = some (.ref ra) → m "marks" = some (.ref ma) → m "text" = some (.str text t) →
   (∀ m' t' s', m' "reach" = some (.ref ra) → m' "text" = some (.str ((List.range 5).foldl (fun t p => queueGo (rs.map (·.1)) (ms.map (·.1)) p t) e0) t') → ((List.range 5).foldl (fun t p => queueGo (rs.map (·.1)) (ms.map (·.1)) p t) e0).length ≤ 500 → Fm w B L [] s₀ m' cm rest s' → Q .next s') →
   LoopC w A tqT (.ref I) tqB [] (callEnv fd_law_text L a_law_text) Q s := by
 intro k
 induction k with
 | zero =>
  intro i m text o s t hi ho hx hl F m1 m2 m3 hq
  refine zab ?_
  have S := zaf (w := w) I 0 1 5
  obtain ⟨h, g, dd, tk, os⟩ := s
  refine F.endI S R.handled hi ho trivial fun h' tk' F' => ?_
  dsimp only
  have : i = 5 := hi
  subst this
  subst hx
  exact wpAny_execs_nil (hq m t _ m1 m3 hl F')
 | succ k ih =>
  intro i m text o s t hi ho hx hl F m1 m2 m3 hq
  refine zab ?_
  have S := zaf (w := w) I 0 1 5
  obtain ⟨h, g, dd, tk, os⟩ := s
  have hi5 : i < 5 := Nat.lt_of_lt_of_le (Nat.lt_add_of_pos_right (Nat.succ_pos k)) (Nat.le_of_eq hi)
  have him : i < ms.length := by rw [hms]; exact hi5
  have o1 : (Str.ofString "(").length = 1 := by decide
  refine F.nextI (d := dd) S hi5 ho trivial fun v h₁ k₁ o₁ hv ho₁ F₁ => ?_
  obtain ⟨ti, hv⟩ := rg0 hv
  subst hv
  dsimp only
  refine wpAny_pure (wpAny_assign_Name ?_)
  refine st_L F₁ (by kernel_rfl) (by kernel_rfl!) (by kernel_rfl) fun h₂ F₂ => ?_
  clear F F₁
  have n1 : upd m "place" (.int i ti) "reach" = some (.ref ra) := m1
  have n2 : upd m "place" (.int i ti) "marks" = some (.ref ma) := m2
  have n3 : upd m "place" (.int i ti) "text" = some (.str text t) := m3
  have n4 : upd m "place" (.int i ti) "place" = some (.int i ti) := rfl
  revert n1 n2 n3 n4 F₂
  generalize upd m "place" (.int i ti) = m₂
  intro F₂ n1 n2 n3 n4
  ktn_no "ast"
  ktn_no "y"
  have gr : h₂.get? ra = some (lsO (inV rs) k1) := (F₂.nw _ (.tail _ hr)).1
  have gm : h₂.get? ma = some (lsO (strValues ms) k2) := (F₂.nw _ (.tail _ hm)).1
  refine getMethod_list_of PySem.F.slot_list_count PySem.F.type_list_count (isL gr) (noD gr) ?_
  ktn_no "y"
  refine count_list_ints (isL gr) (zaE rs) ?_
  have hc : (rs.map (·.1)).count (i : Int) ≤ 6 := Nat.le_trans List.count_le_length (by simpa using hrs)
  refine zdO (x := cCl) (by decide) (by ktn_no "om") fun t₅ k₅ => ?_
  have hml1 : (Txt.mul cCl ((rs.map (·.1)).count (i : Int))).length ≤ 6 := Nat.le_trans (za1 _ _) (by rw [show cCl.length = 1 by decide, Nat.one_mul]; exact hc)
  ktn_no "y"
  refine SB.add (fun t₆ k₆ => ?_) (Nat.le_trans (Nat.add_le_add hml1 (Nat.le_of_eq o1)) (by decide))
  ktn_no "y"
  have hmi : (strValues ms)[i]? = some (.str (ms[i]'him).1 (ms[i]'him).2) := by simp [strValues, List.getElem?_eq_getElem (him)]
  have hml2 := hml _ (List.getElem_mem him)
  refine zaI gm (Nat.lt_trans hi5 (by decide)) hmi ?_
  refine SB.add (fun t₇ k₇ => ?_) (by rw [Str.length_append]; exact Nat.le_trans (Nat.add_le_add (Nat.add_le_add hml1 (Nat.le_of_eq o1)) hml2) (by decide))
  have hg : (ms.map (·.1)).getD i default = (ms[i]'him).1 := by
   rw [List.getD_eq_getElem?_getD, List.getElem?_map, List.getElem?_eq_getElem (him)]; rfl
  refine SB.iadd (fun t₈ k₈ => ?_) (by rw [Str.length_append, Str.length_append]; exact Nat.le_trans (Nat.add_le_add (Nat.le_trans hl (Nat.mul_le_mul_left 100 (Nat.le_of_lt hi5))) (Nat.add_le_add (Nat.add_le_add hml1 (Nat.le_of_eq o1)) hml2)) (by decide))
  ktn_no "y"
  rename_i h₉ F₉
  have hq1 : queueGo (rs.map (·.1)) (ms.map (·.1)) i text = text ++ (Txt.mul (Str.ofString ")") ↑(List.count (↑i) (List.map (fun x => x.1) rs)) ++ Str.ofString "(" ++ ms[i].1) := by
   unfold queueGo; rw [hg]
  refine ih (i + 1) _ _ o₁ _ t₈ ((Nat.succ_add_eq_add_succ i k).trans hi) ho₁ ?_ ?_ F₉ (by ktn_no "k_val") (by ktn_no "k_val") (by ktn_no "k_val") hq
  ·rw [List.range_succ, List.foldl_append, ← hx]
   exact hq1.symm
  ·rw [Str.length_append, Str.length_append, Str.length_append]
   have hml1 : (Txt.mul (Str.ofString ")") ((rs.map (·.1)).count (i : Int))).length ≤ 6 := hml1
   exact Nat.add_le_add hl (Nat.le_trans (Nat.add_le_add (Nat.add_le_add hml1 (Nat.le_of_eq o1)) hml2) (by decide))
theorem zdn {Q : Value → Shared → Prop} {wl : Addr} {mx : Int} {us : List (PySem.Str × Tok)} {nw : Nat} {tw : Tok} (R : Room (n + 61) A) (F : Fm w B L cl s₀ m cm rest s) (hus : ∀ z ∈ us, Word 59 (e0, z.1)) (hu1 : ∀ z ∈ us, z.1.length ≤ 100) (hul : us.length = 5) (hm : (wl, lsO (strValues us) nw) ∈ rest)
  (hms : ms.length = 5) (hml : ∀ y ∈ ms, y.1.length ≤ 10) (hma : (ma, lsO (strValues ms) k2) ∈ rest)
  (h : ∀ t s', Fm w B L cl s₀ m cm rest s' → Q (.str (textF ((List.range 5).map (reachF mx (us.map (·.1)))) (ms.map (·.1))) t) s') :
  wpAny (M w) A (call (.ref a_law_text) [.ref wl, .ref ma, .int mx tw] []) Q E s := by
 refine zam (binds := [("words", .ref wl), ("marks", .ref ma), ("width", .int mx tw)]) (fd := fd_law_text) (cmF := fun _ => none) R F (zeg _) (zd9 _) rfl (BindsTo.of_eq rfl) (by decide) (by kernel_rfl) (fun _ _ e => (by cases e)) (fun _ _ _ e => (by cases e)) ?_ rfl rfl rfl
 intro Qo hQo L' s₁ hL F₁ R₁
 obtain ⟨h₁, g₁, d₁, k₁, o₁⟩ := s₁
 ktn_no "ast"
 ktn_no "y"
 refine Assign_Tuple_swapped (names := ["reach", "text"]) ?_ (by kernel_rfl) (by kernel_rfl)
 refine Tuple_ ?_
 refine zaG ?_ (by kernel_rfl)
 ktn_no "y"
 refine zap (by simp) ?_
 have F₂ := F₁.push1 (g := g₁) (d := d₁) (tk := k₁) (lsO [] 0)
 ktn_no "y"
 refine zae (by simp) ?_
 have F₃ := F₂.push1 (g := g₁) (d := d₁) (tk := k₁ + 1) (tupO [.ref h₁.objs.size, .str (Str.ofString "") k₁])
 refine zaS R₁.handled (F₃.at 0 rfl) fun h₄ he => ?_
 have F₄ := F₃.keepAll (d := d₁) (tk := k₁ + 1) (zbN he)
 clear F₁ F₂ F₃
 refine assignInOrder_cons (bindName_ (st_L F₄ (by kernel_rfl) (by kernel_rfl) (by kernel_rfl) fun h₅ F₆ => ?_))
 refine assignInOrder_cons (bindName_ (st_L F₆ (by kernel_rfl) (by kernel_rfl) (by kernel_rfl) fun h₆ F₇ => ?_))
 refine assignInOrder_nil ?_
 clear F₄ F₆
 replace F₇ := F₇.drop 1
 dsimp only [List.drop] at F₇
 ktn_no "y"
 refine wFor ?_ (fun x => rfl)
 ktn_no "y"
 refine range1 F₇ fun r h₈ t' u' v' k₈ F₈ => ?_
 refine zat F₈ (by decide) fun I o h₉ ho F₉ => ?_
 clear F₇ F₈
 refine text_go (n := n) (cm := fun _ => none) (rest := rest) (wl := wl) (rl := h₁.objs.size) (mx := mx) (us := us) (nw := nw) (tw := tw) (tv := .str (Str.ofString "") k₁) (mv := .ref ma) (by exact R₁) hus hu1 hul hm 5 0 _ [] 0 _ _ rfl ho rfl F₉ (by ktn_no "k_val") (by ktn_no "k_val") (by ktn_no "k_val") (by ktn_no "k_val") (by ktn_no "k_val") fun m' rs kk' s' hrs n1 n2 n3 F₁₀ => ?_
 obtain ⟨h₁₀, g₁₀, d₁₀, k₁₀, o₁₀⟩ := s'
 clear F₉
 dsimp only
 ktn_no "y"
 refine wFor ?_ (fun x => rfl)
 ktn_no "y"
 refine range1 F₁₀ fun r h₁₁ t' u' v' k₁₁ F₁₁ => ?_
 refine zat F₁₁ (by decide) fun I₂ o₂ h₁₂ ho₂ F₁₂ => ?_
 clear F₁₀ F₁₁
 have hl5 : rs.length = 5 := by have := congrArg List.length hrs; simpa using this
 refine tq_go (n := n) (cm := fun _ => none) (ra := h₁.objs.size) (rs := rs) (k1 := kk') (rest := (h₁.objs.size, lsO (inV rs) kk') :: rest) (R₁.less (by ktn_no "le")) (by ktn_no "om") hms hml (.head _) (.tail _ hma) 5 0 _ e0 _ _ _ rfl ho₂ rfl (Nat.zero_le _) F₁₂ n1 n3 n2 fun m'' t' s' n4 n5 hle F₆ => ?_
 obtain ⟨h₆, g₆, d₆, k₆, o₆⟩ := s'
 clear F₁₂
 dsimp only
 have gr : h₆.get? h₁.objs.size = some (lsO (inV rs) kk') := (F₆.nw _ (.head _)).1
 ktn_no "y"
 refine getMethod_list_of PySem.F.slot_list_count PySem.F.type_list_count (isL gr) (noD gr) ?_
 ktn_no "y"
 refine count_list_ints (isL gr) (zaE rs) ?_
 have hc : (rs.map (·.1)).count (5 : Int) ≤ 6 := Nat.le_trans List.count_le_length (by simp; ktn_no "o4")
 refine zdO (x := cCl) (by decide) (by ktn_no "om") fun t₅ k₅ => ?_
 have hml1 : (Txt.mul cCl ((rs.map (·.1)).count (5 : Int))).length ≤ 6 := Nat.le_trans (za1 _ _) (by rw [show cCl.length = 1 by decide, Nat.one_mul]; exact hc)
 refine SB.add (fun t₆ k₆ => ?_) (by have : (100000 : Nat) ≤ sizeLine := by decide
                                     ktn_no "o4")
 rw [hrs]
 exact hQo _ _ <| Back.of (F₆.toks _) fun G => h _ _ (G.drop 1)
end
noncomputable abbrev dcrS : PySem.Str := Str.ofString ".\r"
noncomputable def closeD (st : List (PySem.Str × PySem.Str)) : PySem.Str := (topOf st.dropLast).2 ++ dcrS ++ quoteF (topOf st).2
noncomputable def dotStep (st : List (PySem.Str × PySem.Str)) (u : PySem.Str) : List (PySem.Str × PySem.Str) :=
 if u == cOp then st ++ [(e0, e0)] else if u == cCl then st.dropLast.dropLast ++ [(e0, closeD st)] else st
noncomputable def dStepOk (st : List (PySem.Str × PySem.Str)) (u : PySem.Str) : Prop :=
 st.length ≤ 800 ∧ (u == cCl → (topOf st.dropLast).2.length ≤ 100000 ∧ QOk (topOf st).2 ∧ (quoteF (topOf st).2).length ≤ 100000)
noncomputable def DotsOk : List (Nat × PySem.Str) → List (PySem.Str × PySem.Str) → Prop
 | [], _ => True
 | u :: us, st => dStepOk st u.2 ∧ DotsOk us (dotStep st u.2)
noncomputable abbrev ldFor : Stmt := body_law_dots.getD 1 default
noncomputable abbrev ldT : Expr := (forParts ldFor).1
noncomputable abbrev ldB : List Stmt := (forParts ldFor).2.2.1
section
variable {w : World} {B : Heap} {L I : Addr} {m : PySem.Str → Option Value} {cm : PySem.Str → Option Value} {own rest : List (Addr × Obj)} {s₀ s : Shared} {A : Around} {E : Value → Shared → Prop} {n : Nat} {Q : Flow → Shared → Prop} {x : Addr} {g : Nat}
theorem zfP (R : Room (n + 20) A) :
  ∀ (us : List (Nat × PySem.Str)) (st : List (PySem.Str × PySem.Str)) (m : PySem.Str → Option Value) (own oa : List (Addr × Obj)) (gs : GenState) (s : Shared),
   GenSt w A us I g own gs → s.gens[g]? = some gs → s₀.gens.size ≤ g → AccP x st 0 oa → DotsOk us st → Fm w B L [] s₀ m cm (own ++ (oa ++ rest)) s → m "shelf" = some (.ref x) →
   (∀ m' oa' s', Fm w B L [] s₀ m' cm (oa' ++ rest) s' → AccP x (us.foldl (fun st u => dotStep st u.2) st) 0 oa' → m' "shelf" = some (.ref x) → Q .next s') →
   LoopC w A ldT (.ref I) ldB [] (callEnv fd_law_dots L a_law_dots) Q s := by
 intro us
 induction us with
 | nil =>
  intro st m own oa gs s hst hg hs P hok F hm hq
  refine zab ?_
  refine za5 (n := n) (R.less (by ktn_no "le")) F hst hg hs fun s' F' => ?_
  dsimp only
  exact wpAny_execs_nil (hq _ _ _ F' P hm)
 | cons ab us ih =>
  obtain ⟨a, b⟩ := ab
  intro st m own oa gs s hst hg hs P hok F hm hq
  refine zab ?_
  refine za5 (n := n) (R.less (by ktn_no "le")) F hst hg hs fun T u1 u2 own' gs' s' hst' F' hg' => ?_
  dsimp only
  refine gen_go hst' F' ?_
  obtain ⟨h₂, g₂, d₂, k₂, o₂⟩ := s'
  refine zao F' R.handled (F'.at 0 rfl) rfl (by kernel_rfl) (by kernel_rfl) (by kernel_rfl) fun h₃ k₃ F₃ => ?_
  have F₄ := F₃.drop 1
  simp only [List.cons_append, List.drop] at F₄
  clear F F' F₃
  obtain ⟨⟨ok1, ok3⟩, hok'⟩ := hok
  simp only [List.foldl_cons] at hq
  have n1 : upd (upd m "place" (.int a u1)) "unit" (.str b u2) "shelf" = some (.ref x) := hm
  have n2 : upd (upd m "place" (.int a u1)) "unit" (.str b u2) "unit" = some (.str b u2) := rfl
  revert n1 n2 F₄
  generalize upd (upd m "place" (.int a u1)) "unit" (.str b u2) = m₄
  intro F₄ n1 n2
  have G₁ := F₄.perm (news' := oa ++ (own' ++ rest)) (by ktn_no "perm_tac")
  clear F₄
  have r₁ := G₁.rl
  replace G₁ := G₁.rebase
  ktn_no "ast"
  ktn_no "y"
  cases h1 : b == cOp with
  | true =>
   have e : dotStep st b = st ++ [(e0, e0)] := by simp only [dotStep, h1]; rfl
   dsimp only at hq hok'
   rw [e] at hq hok'
   (ktn_no "iP"; exact rfl)
   ktn_no "y"
   refine zac G₁ P (by ktn_no "k_ev") (by ktn_no "k_ev") (by decide +kernel) (by decide +kernel) ?_
   ktn_no "y"
   refine zbl (n := n) (R.less (by ktn_no "le")) (G₁.toks _) P (by ktn_no "om") fun oa' s' P' G₂ => ?_
   obtain ⟨h₅, g₅, d₅, k₅, o₅⟩ := s'
   clear G₁
   ktn_no "y"
   have hg₂ := G₂.rl.gens _ _ hg'
   exact ih _ m₄ own' oa' gs' _ hst' hg₂ hs P' hok' ((G₂.unbase r₁).perm (by ktn_no "perm_tac")) n1 hq
  | false =>
   (ktn_no "iN"; exact Bool.false_ne_true)
   ktn_no "y"
   cases h2 : b == cCl with
   | true =>
    have e : dotStep st b = st.dropLast.dropLast ++ [(e0, closeD st)] := by simp only [dotStep, h1, h2]; rfl
    dsimp only at hq hok' h2 ok3
    rw [e] at hq hok'
    (refine x0_3 (ok3 h2) ?_; intro ok4 ok6 ok7)
    (ktn_no "iP"; exact rfl)
    ktn_no "y"
    refine zac G₁ P (by ktn_no "k_ev") (by ktn_no "k_ev") (by decide +kernel) (by decide +kernel) ?_
    ktn_no "y"
    refine zbn (n := n) (R.less (by ktn_no "le")) (G₁.toks _) P (by ktn_no "om") fun oa₂ q₂ tq1 tq2 s' P₂ G₂ => ?_
    obtain ⟨h₅, g₅, d₅, k₅, o₅⟩ := s'
    clear G₁
    ktn_no "y"
    refine zbQ (zbe (G₂.at 0 rfl)) (by decide) (by decide) (j := 1) (by rfl) rfl ?_
    ktn_no "y"
    rename_i h₆ G₄
    replace G₄ := G₄.drop 1
    simp only [List.cons_append, List.drop] at G₄
    clear G₂
    replace G₄ : Fm w B L [] _ (upd m₄ "inner" (.str (topOf st).2 tq2)) cm _ _ := G₄
    have p1 : upd m₄ "inner" (.str (topOf st).2 tq2) "shelf" = some (.ref x) := n1
    have p3 : upd m₄ "inner" (.str (topOf st).2 tq2) "inner" = some (.str (topOf st).2 tq2) := rfl
    revert p1 p3 G₄
    generalize upd m₄ "inner" (.str (topOf st).2 tq2) = m₆
    intro G₄ p1 p3
    ktn_no "y"
    refine zac G₄ P₂ (by ktn_no "k_ev") (by ktn_no "k_ev") (by decide +kernel) (by decide +kernel) ?_
    ktn_no "y"
    refine zbn (n := n) (R.less (by ktn_no "le")) (G₄.toks _) P₂ (by simp; ktn_no "o4") fun oa₃ q₃ tq3 tq4 s' P₃ G₅ => ?_
    obtain ⟨h₇, g₇, d₇, k₇, o₇⟩ := s'
    clear G₄
    ktn_no "y"
    refine zbQ (zbe (G₅.at 0 rfl)) (by decide) (by decide) (j := 1) (by rfl) rfl ?_
    ktn_no "y"
    rename_i h₈ G₇
    replace G₇ := G₇.drop 1
    simp only [List.cons_append, List.drop] at G₇
    clear G₅
    replace G₇ : Fm w B L [] _ (upd m₆ "ahead" (.str (topOf st.dropLast).2 tq4)) cm _ _ := G₇
    have r1 : upd m₆ "ahead" (.str (topOf st.dropLast).2 tq4) "shelf" = some (.ref x) := p1
    have r3 : upd m₆ "ahead" (.str (topOf st.dropLast).2 tq4) "inner" = some (.str (topOf st).2 tq2) := p3
    have r5 : upd m₆ "ahead" (.str (topOf st.dropLast).2 tq4) "ahead" = some (.str (topOf st.dropLast).2 tq4) := rfl
    revert r1 r3 r5 G₇
    generalize upd m₆ "ahead" (.str (topOf st.dropLast).2 tq4) = m₈
    intro G₇ r1 r3 r5
    have d1 : (Str.ofString ".\r").length = 2 := by decide
    ktn_no "y"
    refine zac G₇ P₃ (by ktn_no "k_ev") (by ktn_no "k_ev") (by decide +kernel) (by decide +kernel) ?_
    ktn_no "y"
    refine SB.add (fun t₉ k₉ => ?_) (Nat.le_trans (Nat.add_le_add ok4 (Nat.le_of_eq d1)) (by decide))
    ktn_no "y"
    refine zbc (n := n) (R.less (by ktn_no "le")) (G₇.toks _) ok6 fun t₁₂ s' G₈ => ?_
    obtain ⟨h₁₂, g₁₂, d₁₂, k₁₂, o₁₂⟩ := s'
    clear G₇
    have ok7' : (quote2 (quote1 (topOf st).2)).length ≤ 100000 := ok7
    refine SB.add (fun t₁₃ k₁₃ => ?_) (by rw [Str.length_append]; exact Nat.le_trans (Nat.add_le_add (Nat.add_le_add ok4 (Nat.le_of_eq d1)) ok7') (by decide))
    ktn_no "y"
    refine zbl (a := e0) (b := closeD st) (n := n) (R.less (by ktn_no "le")) (G₈.toks _) P₃ (by simp; ktn_no "o4") fun oa₄ s' P₄ G₉ => ?_
    obtain ⟨h₁₄, g₁₄, d₁₄, k₁₄, o₁₄⟩ := s'
    clear G₈
    ktn_no "y"
    have hg₂ := G₉.rl.gens _ _ hg'
    exact ih _ m₈ own' oa₄ gs' _ hst' hg₂ hs P₄ hok' ((G₉.unbase r₁).perm (by ktn_no "perm_tac")) r1 hq
   | false =>
    have e : dotStep st b = st := by simp only [dotStep, h1, h2]; rfl
    dsimp only at hq hok'
    rw [e] at hq hok'
    (ktn_no "iN"; exact Bool.false_ne_true)
    ktn_no "y"
    have hg₂ := G₁.rl.gens _ _ hg'
    exact ih _ m₄ own' oa gs' _ hst' hg₂ hs P hok' (((G₁.toks _).unbase r₁).perm (by ktn_no "perm_tac")) n1 hq
end
noncomputable abbrev crlfZ : PySem.Str := Str.ofString "\r\n"
noncomputable def dotsEnd (x : PySem.Str) : List (PySem.Str × PySem.Str) := (units (stripF x)).foldl (fun st u => dotStep st u.2) []
noncomputable def dotsTail (x : PySem.Str) : PySem.Str := quoteF (topOf (dotsEnd x)).2
noncomputable def dotsF (x : PySem.Str) : List Int := ((Txt.split (dotsTail x) crlfZ).dropLast).map fun r => (r.length : Int) - 1
structure DotsFine (x : PySem.Str) : Prop where
 so : StripOk x
 asc : (stripF x).cps.all (· < 128) = true
 ok : DotsOk (units (stripF x)) []
 len : (dotsEnd x).length ≤ 800
 q : QOk (topOf (dotsEnd x)).2
 sz : (dotsTail x).length ≤ 90000
 rows : ∀ r ∈ (Txt.split (dotsTail x) crlfZ).dropLast, r.length ≤ 90000
section
variable {w : World} {B : Heap} {L : Addr} {m : PySem.Str → Option Value} {cl : List (PySem.Str × Addr)} {cm : PySem.Str → Option Value} {rest : List (Addr × Obj)} {s₀ s : Shared} {A : Around} {E : Value → Shared → Prop} {n : Nat} {Q : Value → Shared → Prop} {x : PySem.Str} {tx : Tok}
theorem zcG {M : Model} {s : Shared} {value slice : Expr} {o i : Value} {T id : String} {Q : Value → Shared → Prop} (hT : s.TypeIs o T)
  (hl : typeLookup (.type T) "__getitem__" = pure (some (.builtin id))) (hgo : ∀ r s' (Q : Unit → Shared → Prop), Q () s' → wpAny M A (letTemporaryGo value o r) Q E s') (q : wpAny M A (getItem o i) Q E s)
  (hs : subscripted slice false o i = operate [i, o] (getItem o i)) :
  wpAny M A (subscriptTail value slice o i) Q E s := by
 unfold subscriptTail
 refine wpAny_bind ?_
 rw [getitemInPython_of_ne hT.not_modules]
 refine wpAny_bind (wpAny_specialOf hT hl ?_)
 have fin : wpAny M A (subscripted slice false o i) (fun r s₃ => wpAny M A (letTemporaryGo value o r >>= fun _ => pure r) Q E s₃) E s := by
  rw [hs]
  exact wpAny_operating (wpAny_mono q (fun r s₃ h₃ => wpAny_bind (hgo _ _ _ (wpAny_pure h₃))) fun _ _ x => x)
 first
  | exact wpAny_pure (wpAny_bind fin)
  | exact wpAny_bind (wpAny_pure (wpAny_bind fin))
  | exact wpAny_bind fin
theorem zfb {h : Heap} {g : Array GenState} {d d₀ : Drawn} {tk tk₀ : Nat} {os : OsState} {news : List (Addr × Obj)} {a sl : Addr} {i : Nat} {vs : List Value} {k : Nat} {value slice : Expr} {vl vu : Value} {lo hi : Option Int} {Q : Value → Shared → Prop}
  (F : Fm w B L cl s₀ m cm news ⟨h, g, d₀, tk₀, os⟩) (hi' : news[i]? = some (a, lsO vs k)) (hs : h.get? sl = some (slO vl vu .none)) (p1 : IsPart vl lo) (p2 : IsPart vu hi) (hsz : vs.length ≤ 100000)
  (q : ∀ y h' k, Fm w B L cl s₀ m cm ((y, lsO (slicePick vs.toArray lo hi none).toList k) :: news) ⟨h', g, d, tk, os⟩ → Q (.ref y) ⟨h', g, d, tk, os⟩)
  (hss : subscripted slice false (.ref a) (.ref sl) = operate [.ref sl, .ref a] (getItem (.ref a) (.ref sl)) := by with_unfolding_all rfl) :
  wpAny (M w) A (subscriptTail value slice (.ref a) (.ref sl)) Q E ⟨h, g, d, tk, os⟩ := by
 have hl := isL (F.at i hi')
 refine zcG hl.typeIs slot_list_getitem.lookup (fun _ _ _ h => wpAny_letTemporaryGo h) (wpAny_getItem_list_slice hl ⟨_, hs, rfl, rfl⟩ p1 p2 .none (by simp) ?_ (Nat.le_trans (by simpa using hsz) (show (100000 : Nat) ≤ sizeLine by decide))) hss
 have F₂ := F.push1 (g := g) (d := d) (tk := tk) ⟨.type "list", none, .seq (slicePick vs.toArray lo hi none), #[]⟩
 exact q _ _ _ F₂
theorem zdr (R : Room (n + 40) A) (F : Fm w B L cl s₀ m cm rest s) (hx : DotsFine x)
  (h : ∀ D ys k s', ys.map (·.1) = dotsF x → Fm w B L cl s₀ m cm ((D, lsO (inV ys) k) :: rest) s' → Q (.ref D) s') :
  wpAny (M w) A (call (.ref a_law_dots) [.str x tx] []) Q E s := by
 refine zam (binds := [("text", .str x tx)]) (fd := fd_law_dots) (cmF := fun _ => none) R F (zea _) (zdY _) rfl (BindsTo.of_eq rfl) (by decide) (by kernel_rfl) (fun _ _ e => (by cases e)) (fun _ _ _ e => (by cases e)) ?_ rfl rfl rfl
 intro Qo hQo L' s₁ hL F₁ R₁
 obtain ⟨h₁, g₁, d₁, k₁, o₁⟩ := s₁
 ktn_no "ast"
 ktn_no "y"
 refine make0 (n := n + 20) (R₁.less (by ktn_no "le")) (F₁.toks _) fun sh oa s' P F₂ => ?_
 obtain ⟨h₂, g₂, d₂, k₂, o₂⟩ := s'
 clear F₁
 ktn_no "y"
 rename_i h₃ F₃
 refine wFor ?_ (fun x => rfl)
 ktn_no "y"
 refine zcB (n := n + 10) (R₁.less (by ktn_no "le")) (F₃.toks _) hx.so fun t₄ s' F₄ => ?_
 obtain ⟨h₄, g₄, d₄, k₄, o₄⟩ := s'
 clear F₃
 ktn_no "y"
 refine zc4 (n := n + 30) (A.deeper (callEnv fd_law_dots L' a_law_dots)) (R₁.less (by ktn_no "le")) (F₄.toks _) hx.asc fun I own gs s' hst F₆ hg => ?_
 obtain ⟨h₆, g₆, d₆, k₆, o₆⟩ := s'
 refine zc2 hst F₆ ?_
 refine zfP (n := n + 15) (R₁.less (by ktn_no "le")) (units (stripF x)) [] _ own oa _ _ hst hg F₄.rl.gsize P hx.ok (F₆.perm (by ktn_no "perm_tac")) (by ktn_no "k_val") fun m' oa' s' F₇ P₇ hm => ?_
 obtain ⟨h₇, g₇, d₇, k₇, o₇⟩ := s'
 clear F₄ F₆ F₂ P
 dsimp only
 ktn_no "y"
 refine zdc (B := under s rest) (L := L') (m := m') (cl := []) (cm := fun _ => none) (s₀ := s) (cl' := []) (by kernel_rfl) (by kernel_rfl) (by kernel_rfl) (by kernel_rfl) (fun _ => rfl) (fun _ _ e => e) ?_
 ktn_no "y"
 refine zac F₇ P₇ (by ktn_no "k_ev") (by ktn_no "k_ev") (by decide +kernel) (by decide +kernel) ?_
 ktn_no "y"
 refine zbn (n := n) (R₁.less (by ktn_no "le")) (F₇.toks _) P₇ (by have := hx.len; exact Nat.le_trans this (by decide)) fun oa₂ q₂ tq1 tq2 s' P₈ F₈ => ?_
 obtain ⟨h₈, g₈, d₈, k₈, o₈⟩ := s'
 clear F₇
 ktn_no "y"
 refine zbQ (zbe (F₈.at 0 rfl)) (by decide) (by decide) (j := 1) (by rfl) rfl ?_
 ktn_no "y"
 refine zbc (n := n) (R₁.less (by ktn_no "le")) (F₈.toks _) hx.q fun t₉ s' F₉ => ?_
 obtain ⟨h₉, g₉, d₉, k₉, o₉⟩ := s'
 clear F₈
 ktn_no "y"
 refine GM.split ?_
 ktn_no "y"
 refine zdy (by decide) (Nat.le_trans hx.sz (by decide)) fun lp k₁₀ hlp => ?_
 have F₁₀ := F₉.push1 (g := g₉) (d := d₉) (tk := k₁₀) (lsO (strValues lp) 0)
 clear F₉
 ktn_no "y"
 refine wpAny_Slice ?_
 refine evalPart_none_step ?_
 refine evalPart_some_step ?_
 ktn_no "y"
 refine evalPart_none_step ?_
 have F₁₁ := fun t => F₁₀.push1 (g := g₉) (d := d₉) (tk := k₁₀) (slO .none (.int (-1) t) .none)
 have hlp2 := congrArg List.length hlp
 have hpl := zhC (dotsTail x) crlfZ
 have hsz := hx.sz
 simp only [List.length_map] at hlp2
 have hlp : lp.map (·.1) = Txt.split (dotsTail x) crlfZ := hlp
 have hlp2 : lp.length = (Txt.split (dotsTail x) crlfZ).length := hlp2
 have hlc : lp.length ≤ 100000 := Nat.le_trans (Nat.le_of_eq hlp2) (Nat.le_trans hpl (Nat.le_trans (Nat.add_le_add_right hsz 2) (by decide)))
 refine zfb (F₁₁ _) (i := 1) rfl ((F₁₁ _).at 0 rfl) .none (.int _ _) (by simp [strValues]; exact hlc) fun y₁ h₁₁ ky F₁₂ => ?_
 have e1 : (slicePick (strValues lp).toArray none (some (-1)) none).toList = strValues lp.dropLast := by
  have := slicePick_butLast (strValues lp).toArray 1 (Nat.le_refl _)
  rw [show (-((1 : Nat) : Int)) = -1 from rfl] at this
  rw [this]
  show List.take _ _ = _
  rw [strValues, strValues, List.map_dropLast, List.dropLast_eq_take]
  simp
 rw [e1] at F₁₂
 refine zak F₁₂ (i := 0) rfl fun I₃ h₁₃ F₁₃ => ?_
 clear F₁₀ F₁₁ F₁₂
 replace F₁₃ := F₁₃.sub (news' := (I₃, itO y₁ 0) :: (y₁, lsO (strValues lp.dropLast) ky) :: rest) ((((((List.sublist_append_right oa₂ rest).cons _).cons _).cons _).cons₂ _).cons₂ _)
 refine ⟨_, F₁₃, fun D C s₃ s₄ _ F₁₄ G => ?_⟩
 have G₁ := G.perm (news' := (I₃, itO y₁ 0) :: (D, lsO [] 0) :: ([] ++ (y₁, lsO (strValues lp.dropLast) ky) :: rest)) (by ktn_no "perm_tac")
 have hrow : ∀ r ∈ lp.dropLast, r.1.length ≤ 90000 := fun r hr => by
  refine hx.rows r.1 ?_
  rw [← hlp, ← List.map_dropLast]
  exact List.mem_map_of_mem hr
 have hsl : (strValues lp.dropLast).length = lp.dropLast.length := by simp [strValues]
 refine zas (zag I₃ y₁ (strValues lp.dropLast)) (zaA I₃ y₁) rfl rfl R₁.handled (by rw [hsl, List.length_dropLast]; exact Nat.le_trans (Nat.sub_le _ _) hlc) (fun j v => ∃ t, v = .int (((lp.dropLast.getD j default).1.length : Int) - 1) t) rfl G₁ (fun m l k s o F => ⟨_, _, F.at 2 rfl, rfl⟩) (fun j v m0 l1 k0 o0 s0 K hj hv G₂ q => ?_) (fun m₅ ls kd s' hl' hv G₃ => ?_)
 ·obtain ⟨h, g, d, tk, os⟩ := s0
  have hlt : j < lp.dropLast.length := by rw [← hsl]; exact hj
  have hv' : v = .str lp.dropLast[j].1 lp.dropLast[j].2 := by
   simp only [strValues, List.getElem?_map, List.getElem?_eq_getElem hlt] at hv
   exact (Option.some.inj hv).symm
  have hr := hrow _ (List.getElem_mem hlt)
  subst hv'
  refine wpAny_pure (wpAny_assign_Name ?_)
  refine st_L G₂ (by kernel_rfl) (by kernel_rfl!) (by kernel_rfl) fun h₆ G₃ => ?_
  clear G₁ G₂ G F₁₄ F₁₃
  ktn_no "y"
  refine SBL.len (Int.lt_of_le_of_lt (Int.ofNat_le.mpr hr) (by decide)) ?_
  ktn_no "y"
  have hy : ∀ t, ∃ t', Value.int ((lp.dropLast[j].1.length : Int) - 1) t = Value.int (((lp.dropLast.getD j default).1.length : Int) - 1) t' := fun t => ⟨t, by
   rw [List.getD_eq_getElem?_getD, List.getElem?_eq_getElem hlt]; rfl⟩
  exact q _ _ _ (hy _) (G₃.toks _)
 ·refine ⟨_, _, _, _, G₃, fun s'' F₂₀ => ?_⟩
  (refine x1_2 (zbW ls _ hv) ?_; intro yl eqX1 hy; subst eqX1)
  have F₂₁ := F₂₀.sub (news' := (D, lsO (inV yl) kd) :: rest) (((List.Sublist.refl rest).cons _).cons₂ _)
  refine hQo _ _ <| Back.of F₂₁ fun G => h _ _ _ _ ?_ G
  rw [hy, hl', hsl]
  rw [zau lp.dropLast (fun z => (z.1.length : Int) - 1)]
  unfold dotsF
  rw [← hlp, ← List.map_dropLast, List.map_map]
  rfl
end
noncomputable def insAt (p : Int) (o : List Int) (s : Nat) : List Int := o.take s ++ [p] ++ o.drop s
noncomputable def insAll (p : Nat) (os : List (List Int)) : List (List Int) := os.flatMap fun o => (List.range (p + 1)).map (insAt p o)
noncomputable def ordersF : Nat → List (List Int)
 | 0 => [[]]
 | p + 1 => insAll p (ordersF p)
theorem zbD : ∀ p, p ≤ 5 → (ordersF p).length ≤ 120 := by decide +kernel
theorem zdh : ∀ p, p ≤ 5 → ∀ o ∈ ordersF p, o.length = p := by decide +kernel
noncomputable def LstIn (xs : List (List Int)) (vs : List Value) (l : List (Addr × Obj)) : Prop :=
 vs.length = xs.length ∧ ∀ (j : Nat) (y : List Int), xs[j]? = some y → ∃ a ys k, vs[j]? = some (Value.ref a) ∧ ys.map (·.1) = y ∧ (a, lsO (inV ys) k) ∈ l
theorem LstIn.snoc {xs : List (List Int)} {vs : List Value} {l : List (Addr × Obj)} (h : LstIn xs vs l) {ys : List (Int × Tok)} {y : List Int} {a : Addr} {k : Nat} (hy : ys.map (·.1) = y) : LstIn (xs ++ [y]) (vs ++ [.ref a]) ((a, lsO (inV ys) k) :: l) := by
 refine ⟨by simp [h.1], fun j z e => ?_⟩
 by_cases hj : j < xs.length
 ·rw [List.getElem?_append_left hj] at e
  (refine x3_3 (h.2 j z e) ?_; intro a' ys' k' e1 e2 e3)
  exact ⟨a', ys', k', by rw [List.getElem?_append_left (by rw [h.1]; exact hj)]; exact e1, e2, .tail _ e3⟩
 ·have hlt := (List.getElem?_eq_some_iff.mp e).1
  simp at hlt
  have hj' : j = xs.length := by ktn_no "o4"
  subst hj'
  rw [List.getElem?_append_right (Nat.le_refl _), Nat.sub_self] at e
  simp at e
  subst e
  refine ⟨a, ys, k, ?_, hy, .head _⟩
  rw [List.getElem?_append_right (by rw [h.1]; exact Nat.le_refl _), h.1, Nat.sub_self]
  rfl
section
variable {w : World} {B : Heap} {C I : Addr} {m cm : PySem.Str → Option Value} {cl : List (PySem.Str × Addr)} {s₀ s : Shared} {A : Around} {n k d : Nat} {P : Nat → Value → Prop} {Ob : Nat → Obj → Prop} {Sd : Heap → Prop} {o : Obj} {l : List (Addr × Obj)} {vs : List Value}
 {elt target iter : Expr} {ifs : List Expr} {gens : List Comprehension} {scope : Scope} {pos : Pos} {acc : Value} {env : Env} {Q : Shared → Prop}
theorem zdd (S : Steps w I n P Ob Sd) (self : SelfI w I Ob) (hg : gens[d]? = some ⟨target, iter, ifs, 0⟩) (hn : gens[d + 1]? = none) (hh : A.handled = none)
  (nf : List (Addr × Obj) → List Value → Nat → List (Addr × Obj)) (Iv : Nat → (PySem.Str → Option Value) → List (Addr × Obj) → List Value → Prop)
  (hSd : ∀ i m l vs k s o, Iv i m l vs → Fm w B C cl s₀ m cm ((I, o) :: nf l vs k) s → Sd s.heap) (ho : Ob 0 o) (hv : Iv 0 m l vs) (F : Fm w B C cl s₀ m cm ((I, o) :: nf l vs k) s)
  (body : ∀ i v m o s (K : Shared → Prop) l vs k, i < n → P i v → Iv i m l vs → Fm w B C cl s₀ m cm ((I, o) :: nf l vs k) s →
   (∀ m' l' vs' k' s', Iv (i + 1) m' l' vs' → Fm w B C cl s₀ m' cm ((I, o) :: nf l' vs' k') s' → K s') →
   wpAny (M w) A (letOwnedTupleGo target (.ref I) v) (fun _ s₁' => wpAny (M w) A (assign target env v) (fun _ s₂ => wpAny (M w) A (ifsOk env ifs) (fun ok s₃ =>
     if ok = true then wpAny (M w) A (eval elt env) (fun y s₄ => wpAny (M w) A (call (.builtin "list.append") [acc, y]) (fun _ s₅ => K s₅) NoE s₄) NoE s₃
     else K s₃) NoE s₂) NoE s₁') NoE s)
  (hq : ∀ m' l' vs' k' s', Iv n m' l' vs' → Fm w B C cl s₀ m' cm (nf l' vs' k') s' → Q s') : CompS w A (.ListComp elt gens scope pos) d (.ref I) acc env Q s := by
 refine zcT S self hg hn hh (fun i m cm' news => cm' = cm ∧ ∃ l vs k, news = nf l vs k ∧ Iv i m l vs) ?_ ho ⟨rfl, l, vs, k, rfl, hv⟩ F ?_ ?_
 ·intro i m cm' news s o z F
  obtain ⟨z1, l, vs, k, z2, z⟩ := z
  subst z1 z2
  exact hSd i m l vs k s o z F
 ·intro i v m cm' news o s K hi hP z F q
  obtain ⟨z1, l, vs, k, z2, z⟩ := z
  subst z1 z2
  exact body i v m o s K l vs k hi hP z F fun m' l' vs' k' s' z F => q _ _ _ _ ⟨rfl, _, _, _, rfl, z⟩ F
 ·intro m' cm' news s z F
  obtain ⟨z1, l, vs, k, z2, z⟩ := z
  subst z1 z2
  exact hq m' l vs k s z F
theorem zcC {target' iter' : Expr} {ifs' : List Expr} (S : Steps w I n P Ob Sd) (self : SelfI w I Ob) (hg : gens[d]? = some ⟨target, iter, ifs, 0⟩) (hn : gens[d + 1]? = some ⟨target', iter', ifs', 0⟩) (hf : ∀ x, foldedSetIterable iter' env x = pure x) (hh : A.handled = none)
  (nf : List (Addr × Obj) → List Value → Nat → List (Addr × Obj)) (Iv : Nat → (PySem.Str → Option Value) → List (Addr × Obj) → List Value → Prop)
  (hSd : ∀ i m l vs k s o, Iv i m l vs → Fm w B C cl s₀ m cm ((I, o) :: nf l vs k) s → Sd s.heap) (ho : Ob 0 o) (hv : Iv 0 m l vs) (F : Fm w B C cl s₀ m cm ((I, o) :: nf l vs k) s)
  (body : ∀ i v m o s (K : Shared → Prop) l vs k, i < n → P i v → Iv i m l vs → Fm w B C cl s₀ m cm ((I, o) :: nf l vs k) s →
   (∀ m' l' vs' k' s', Iv (i + 1) m' l' vs' → Fm w B C cl s₀ m' cm ((I, o) :: nf l' vs' k') s' → K s') →
   wpAny (M w) A (letOwnedTupleGo target (.ref I) v) (fun _ s₁' => wpAny (M w) A (assign target env v) (fun _ s₂ => wpAny (M w) A (ifsOk env ifs) (fun ok s₃ =>
     if ok = true then wpAny (M w) A (eval iter' env) (fun x s₄ => wpAny (M w) A (pyIter x) (fun it' s₅ => CompS w A (.ListComp elt gens scope pos) (d + 1) it' acc env K s₅) NoE s₄) NoE s₃
     else K s₃) NoE s₂) NoE s₁') NoE s)
  (hq : ∀ m' l' vs' k' s', Iv n m' l' vs' → Fm w B C cl s₀ m' cm (nf l' vs' k') s' → Q s') : CompS w A (.ListComp elt gens scope pos) d (.ref I) acc env Q s := by
 refine zgs S self hg hn hf hh (fun i m cm' news => cm' = cm ∧ ∃ l vs k, news = nf l vs k ∧ Iv i m l vs) ?_ ho ⟨rfl, l, vs, k, rfl, hv⟩ F ?_ ?_
 ·intro i m cm' news s o z F
  obtain ⟨z1, l, vs, k, z2, z⟩ := z
  subst z1 z2
  exact hSd i m l vs k s o z F
 ·intro i v m cm' news o s K hi hP z F q
  obtain ⟨z1, l, vs, k, z2, z⟩ := z
  subst z1 z2
  exact body i v m o s K l vs k hi hP z F fun m' l' vs' k' s' z F => q _ _ _ _ ⟨rfl, _, _, _, rfl, z⟩ F
 ·intro m' cm' news s z F
  obtain ⟨z1, l, vs, k, z2, z⟩ := z
  subst z1 z2
  exact hq m' l vs k s z F
end
noncomputable abbrev envK (L : Addr) : Env := callEnvC fd_law_kinds L a_law_kinds
noncomputable abbrev lkFor : Stmt := body_law_kinds.getD 1 default
noncomputable abbrev lkT : Expr := (forParts lkFor).1
noncomputable abbrev lkB : List Stmt := (forParts lkFor).2.2.1
noncomputable abbrev lkOrd : Stmt := lkB.getD 0 default
section
variable {w : World} {B : Heap} {L : Addr} {m cm : PySem.Str → Option Value} {cl : List (PySem.Str × Addr)} {news rest : List (Addr × Obj)} {s₀ s : Shared} {A : Around} {n : Nat}
theorem zbd {h : Heap} {g : Array GenState} {d d₀ : Drawn} {tk tk₀ : Nat} {os : OsState} {a sl : Addr} {vs : List Value} {k : Nat} {value slice : Expr} {vl vu : Value} {lo hi : Option Int} {Q : Value → Shared → Prop} {E : Value → Shared → Prop}
  (F : Fm w B L cl s₀ m cm news ⟨h, g, d₀, tk₀, os⟩) (hl' : h.get? a = some (lsO vs k)) (hs : h.get? sl = some (slO vl vu .none)) (p1 : IsPart vl lo) (p2 : IsPart vu hi) (hsz : vs.length ≤ 100000)
  (q : ∀ y h' k, Fm w B L cl s₀ m cm ((y, lsO (slicePick vs.toArray lo hi none).toList k) :: news) ⟨h', g, d, tk, os⟩ → Q (.ref y) ⟨h', g, d, tk, os⟩)
  (hss : subscripted slice false (.ref a) (.ref sl) = operate [.ref sl, .ref a] (getItem (.ref a) (.ref sl)) := by with_unfolding_all rfl) :
  wpAny (M w) A (subscriptTail value slice (.ref a) (.ref sl)) Q E ⟨h, g, d, tk, os⟩ := by
 have hl := isL hl'
 refine zcG hl.typeIs slot_list_getitem.lookup (fun _ _ _ h => wpAny_letTemporaryGo h) (wpAny_getItem_list_slice hl ⟨_, hs, rfl, rfl⟩ p1 p2 .none (by simp) ?_ (Nat.le_trans (by simpa using hsz) (show (100000 : Nat) ≤ sizeLine by decide))) hss
 have F₂ := F.push1 (g := g) (d := d) (tk := tk) ⟨.type "list", none, .seq (slicePick vs.toArray lo hi none), #[]⟩
 exact q _ _ _ F₂
theorem zdW {Q : Flow → Shared → Prop} {O : Addr} {vs : List Value} {l : List (Addr × Obj)} {kk p : Nat} {tp : Tok} (R : Room (n + 20) A) (hp : p < 5) (F : Fm w B L (envK L).cells s₀ m cm ((O, lsO vs kk) :: (l ++ rest)) s) (HC : OwnC B (envK L).cells)
  (hL : LstIn (ordersF p) vs l) (m1 : m "orders" = some (.ref O)) (c1 : cm "place" = some (.int p tp))
  (h : ∀ O' vs' l' k' s', LstIn (ordersF (p + 1)) vs' l' → Fm w B L (envK L).cells s₀ (upd m "orders" (.ref O')) cm ((O', lsO vs' k') :: (l' ++ rest)) s' → Q .next s') :
  wpAny (M w) A (exec lkOrd (envK L)) Q NoE s := by
 obtain ⟨h₁, g₁, d₁, k₁, o₁⟩ := s
 have hol := zbD p (Nat.le_of_lt hp)
 have hoa := zdh p (Nat.le_of_lt hp)
 ktn_no "ast"
 refine zaw (B := B) (L := L) (m := m) (cm := cm) (s₀ := s₀) (by kernel_rfl) (by kernel_rfl) (by rfl) (by kernel_rfl) (by kernel_rfl) (by kernel_rfl) (fun _ => rfl) (by kernel_rfl) (by kernel_rfl) (by kernel_rfl) ?_
 ktn_no "z"
 refine zak F (i := 0) rfl fun I h₅ F₅ => ?_
 clear F
 refine ⟨_, F₅, fun D C s₃ s₄ _ F₆ G => ?_⟩
 have G₁ := G.perm (news' := (I, itO O 0) :: (D, lsO [] 0) :: ([] ++ (O, lsO vs kk) :: (l ++ rest))) (by ktn_no "perm_tac")
 clear F₅ F₆ G
 refine zcC (zag I O vs) (zaA I O) rfl rfl (fun _ => rfl) R.handled (l := []) (vs := []) (fun l' vs' k => (D, lsO vs' k) :: (l' ++ (O, lsO vs kk) :: (l ++ rest))) (fun i _ l' vs' => LstIn (insAll p ((ordersF p).take i)) vs' l' ∧ vs'.length ≤ 5 * i) ?_ rfl ⟨⟨rfl, fun j y e => by simp [insAll] at e⟩, Nat.le_refl _⟩ G₁ ?_ ?_
 ·intro i m l' vs' k s o _ F
  exact ⟨_, _, (F.nw (O, lsO vs kk) (.tail _ (.tail _ (List.mem_append_right _ (.head _))))).1, rfl⟩
 ·intro i v m₁ o₁ s₅ K l' vs' k hi hv z G₂ q
  obtain ⟨hP, hvl⟩ := z
  obtain ⟨h₅', g₅, d₅, k₅, o₅⟩ := s₅
  have hi' : i < (ordersF p).length := by rw [← hL.1]; exact hi
  (refine x3_3 (hL.2 i _ (List.getElem?_eq_getElem hi')) ?_; intro a ys ka e1 e2 e3)
  have ev : v = .ref a := Option.some.inj (hv.symm.trans e1)
  subst ev
  have hyl : ys.length = p := by have := congrArg List.length e2; rw [List.length_map] at this; rw [this]; exact hoa _ (List.getElem_mem hi')
  have hy5 : ys.length ≤ 5 := Nat.le_trans (Nat.le_of_eq hyl) (Nat.le_of_lt hp)
  refine wpAny_pure (wpAny_assign_Name ?_)
  refine st_L G₂ (by kernel_rfl) (by kernel_rfl!) (by kernel_rfl) fun h₆ G₃ => ?_
  have n1 : upd m₁ "order" (.ref a) "order" = some (.ref a) := rfl
  revert n1 G₃
  generalize upd m₁ "order" (.ref a) = m₆
  intro G₃ n1
  clear G₁ G₂
  refine wpAny_tests_nil ?_
  (ktn_no "iP"; exact rfl)
  ktn_no "z"
  rw [show ((p : Nat) : Int) + 1 = ((p + 1 : Nat) : Int) from rfl]
  refine range1 G₃ fun r₂ h₇ t₂ u₂ v₂ k₇ G₄ => ?_
  refine zat G₄ (by rw [Nat.zero_add]; exact Nat.le_trans hp (by decide)) fun J oJ h₈ hoJ G₅ => ?_
  clear G₃ G₄
  refine zdd (zaf J 0 1 (p + 1)) (za8 J 0 1 (p + 1)) rfl rfl R.handled (fun l' vs' k => (I, o₁) :: (D, lsO vs' k) :: (l' ++ (O, lsO vs kk) :: (l ++ rest))) (fun j m l' vs' => m "order" = some (.ref a) ∧ LstIn (insAll p ((ordersF p).take i) ++ (List.range j).map (insAt p (ordersF p)[i])) vs' l' ∧ vs'.length ≤ 5 * i + j) (fun _ _ _ _ _ _ _ _ _ => trivial) hoJ ⟨n1, by simpa using hP, hvl⟩ G₅ ?_ ?_
  ·intro j v m₂ o₂ s₈ K₂ l' vs' k hj hv z X₂ q₂
   clear hP hvl q
   obtain ⟨n2, hP, hvl⟩ := z
   obtain ⟨tj, hv⟩ := rg0 hv
   subst hv
   obtain ⟨h₈', g₈, d₈, k₈, o₈⟩ := s₈
   refine wpAny_pure (wpAny_assign_Name ?_)
   refine st_L X₂ (by kernel_rfl) (by kernel_rfl!) (by kernel_rfl) fun h₁₀ X₃ => ?_
   have n3 : upd m₂ "spot" (.int j tj) "spot" = some (.int j tj) := rfl
   have n4 : upd m₂ "spot" (.int j tj) "order" = some (.ref a) := n2
   revert n3 n4 X₃
   generalize upd m₂ "spot" (.int j tj) = m₆'
   intro X₃ n3 n4
   clear G₅ X₂
   have ma : (a, lsO (inV ys) ka) ∈ (J, o₂) :: (I, o₁) :: (D, lsO vs' k) :: (l' ++ (O, lsO vs kk) :: (l ++ rest)) := by simp [e3]
   refine wpAny_tests_nil ?_
   (ktn_no "iP"; exact rfl)
   ktn_no "z"
   refine wpAny_Slice ?_
   refine evalPart_none_step ?_
   refine evalPart_some_step ?_
   ktn_no "z"
   refine evalPart_none_step ?_
   have X₄ := X₃.push1 (g := g₈) (d := d₈) (tk := k₈) (slO .none (.int (j : Nat) tj) .none)
   refine zbd X₄ (X₄.nw _ (.tail _ ma)).1 (X₄.at 0 rfl) .none (.int _ _) (by simp; exact Nat.le_trans hy5 (by decide)) fun y₁ h₁₁ ky X₅ => ?_
   clear X₃ X₄
   rw [slicePick_upto'] at X₅
   rw [show (List.take j (inV ys).toArray.toList).toArray.toList = inV (ys.take j) by simp [inV]] at X₅
   ktn_no "z"
   refine za4 (vs := inV [((p : Int), tp)]) (X₅.toks 0) (by simp) fun V h₁₂ X₆ => ?_
   clear X₅
   refine zeY X₆ (X₆.at 1 rfl) (X₆.at 0 rfl) (by simp; exact Nat.le_trans (Nat.min_le_right _ _) (Nat.le_trans hy5 (by decide))) fun S h₁₃ X₇ => ?_
   clear X₆
   ktn_no "z"
   refine wpAny_Slice ?_
   refine evalPart_some_step ?_
   ktn_no "z"
   refine evalPart_none_step ?_
   refine evalPart_none_step ?_
   have X₈ := X₇.push1 (g := g₈) (d := d₈) (tk := k₈) (slO (.int (j : Nat) tj) .none .none)
   refine zbd X₈ (X₈.nw _ (.tail _ (.tail _ (.tail _ (.tail _ (.tail _ ma)))))).1 (X₈.at 0 rfl) (.int _ _) .none (by simp; exact Nat.le_trans hy5 (by decide)) fun y₂ h₁₄ ky₂ X₉ => ?_
   clear X₇ X₈
   rw [slicePick_from'] at X₉
   rw [show (List.drop j (inV ys).toArray.toList).toArray.toList = inV (ys.drop j) by simp [inV]] at X₉
   refine zeY X₉ (X₉.at 2 rfl) (X₉.at 0 rfl) (by simp; exact Nat.le_trans (Nat.add_le_add (Nat.add_le_add_right (Nat.le_trans (Nat.min_le_right _ _) hy5) 1) (Nat.le_trans (Nat.sub_le _ _) hy5)) (by decide)) fun S₂ h₁₅ X₁₀ => ?_
   clear X₉
   refine app_at 9 X₁₀ rfl (Nat.le_trans hvl (Nat.le_trans (Nat.add_le_add (Nat.mul_le_mul_left 5 (Nat.le_trans (Nat.le_of_lt hi') hol)) (Nat.le_trans (Nat.le_of_lt_succ hj) (Nat.le_of_lt hp))) (by decide))) fun h₁₆ X₁₁ => ?_
   dsimp only [List.set] at X₁₁
   have hys : (ys.take j ++ [((p : Int), tp)] ++ ys.drop j).map (·.1) = insAt p (ordersF p)[i] j := by
    unfold insAt
    rw [← e2]
    simp
   refine q₂ _ ((S₂, lsO (inV (ys.take j ++ [((p : Int), tp)] ++ ys.drop j)) 0) :: l') (vs' ++ [.ref S₂]) (k + 1) _ ⟨n4, ?_, by rw [List.length_append]; exact Nat.succ_le_succ hvl⟩ ((X₁₁.sub (news' := (S₂, lsO (inV (ys.take j ++ [((p : Int), tp)] ++ ys.drop j)) 0) :: (J, o₂) :: (I, o₁) :: (D, lsO (vs' ++ [.ref S₂]) (k + 1)) :: (l' ++ (O, lsO vs kk) :: (l ++ rest))) ?_).perm (by ktn_no "perm_tac"))
   ·rw [List.range_succ, List.map_append, ← List.append_assoc]
    exact hP.snoc hys
   ·have e : inV (ys.take j ++ [((p : Int), tp)] ++ ys.drop j) = inV (ys.take j) ++ inV [((p : Int), tp)] ++ inV (ys.drop j) := by simp [inV]
    rw [e]
    exact (((((((List.Sublist.refl _).cons _).cons _).cons _).cons _).cons _).cons _).cons₂ _
  ·intro m₂ l' vs' k s₈ z X₂
   obtain ⟨n2, hP, hvl⟩ := z
   refine q _ l' vs' k _ ⟨?_, Nat.le_trans hvl (Nat.add_le_add_left hp (5 * i))⟩ X₂
   have e : insAll p ((ordersF p).take (i + 1)) = insAll p ((ordersF p).take i) ++ (List.range (p + 1)).map (insAt p (ordersF p)[i]) := by
    unfold insAll
    rw [List.take_succ_eq_append_getElem hi', List.flatMap_append]
    simp
   rw [e]
   exact hP
 ·intro m₁ l' vs' k s₅ z G₂
  obtain ⟨hP, hvl⟩ := z
  refine ⟨_, _, _, _, G₂, fun s'' F₇ => ?_⟩
  refine h D vs' l' k _ ?_ (F₇.sub ((List.Sublist.append (List.Sublist.refl l') ((List.sublist_append_right l rest).cons _)).cons₂ _))
  rw [hL.1, List.take_length] at hP
  exact hP
end
noncomputable def abS (b : Bool) : PySem.Str := if b then Str.ofString "b" else Str.ofString "a"
noncomputable def kindS (ps : List (Nat × Nat)) (o : List Int) : PySem.Str := Txt.join e0 (ps.map fun q => abS (decide (o.getD q.1 0 > o.getD q.2 0)))
noncomputable abbrev natP (ps : List (Nat × Nat)) : List (Int × Int) := ps.map fun q => ((q.1 : Int), (q.2 : Int))
theorem abS_len (b : Bool) : (abS b).length = 1 := by cases b <;> decide
section
variable {w : World} {B : Heap} {L : Addr} {m cm : PySem.Str → Option Value} {cl : List (PySem.Str × Addr)} {news rest : List (Addr × Obj)} {s₀ s : Shared} {A : Around} {n : Nat}
theorem zhE {Q : Flow → Shared → Prop} {O sa : Addr} {vs vS : List Value} {l lS : List (Addr × Obj)} {kk kS : Nat} {os : List (List Int)} {ps : List (Nat × Nat)} (R : Room (n + 20) A) (F : Fm w B L (envK L).cells s₀ m cm ((O, lsO vs kk) :: (l ++ rest)) s) (HC : OwnC B (envK L).cells)
  (hL : LstIn os vs l) (ho1 : os.length ≤ 120) (ho2 : ∀ o ∈ os, o.length = 5) (hP : PrsIn (natP ps) vS lS) (hp1 : ps.length ≤ 10) (hp2 : ∀ q ∈ ps, q.1 < 5 ∧ q.2 < 5) (hS : (sa, lsO vS kS) ∈ rest) (hl : ∀ p ∈ lS, p ∈ rest)
  (m1 : m "orders" = some (.ref O)) (c1 : cm "shares" = some (.ref sa))
  (h : ∀ S o s', SetOb w ((os.map (kindS ps)).foldl addK []) o → Fm w B L (envK L).cells s₀ (upd m "kinds" (.ref S)) cm ((S, o) :: rest) s' → Q .next s') :
  wpAny (M w) A (exec (body_law_kinds.getD 2 default) (envK L)) Q NoE s := by
 obtain ⟨h₁, g₁, d₁, k₁, o₁⟩ := s
 ktn_no "ast"
 ktn_no "z"
 refine zft (B := B) (L := L) (m := m) (cm := cm) (s₀ := s₀) (x := "spots") (by kernel_rfl) (by rfl) (fun _ _ => rfl) (fun _ => rfl) (by kernel_rfl) (by kernel_rfl) (fun _ => rfl) ?_
 ktn_no "z"
 refine zak F (i := 0) rfl fun I h₅ F₅ => ?_
 clear F
 refine ⟨_, F₅, fun D C c s₃ s₄ _ F₆ G hcn hcz => ?_⟩
 have G₁ := G.perm (news' := (I, itO O 0) :: (D, lsO [] 0) :: (O, lsO vs kk) :: (l ++ rest)) (by ktn_no "perm_tac")
 clear F₅ F₆ G
 refine zcT (zag I O vs) (zaA I O) rfl rfl R.handled (fun i m cm' news => cm' "shares" = some (.ref sa) ∧ ∃ (us : List (PySem.Str × Tok)) (k : Nat), news = (D, lsO (strValues us) k) :: (O, lsO vs kk) :: (l ++ rest) ∧ us.map (·.1) = (os.take i).map (kindS ps)) ?_ rfl ⟨by unfold less1; rw [if_neg (by decide)]; exact c1, [], 0, rfl, rfl⟩ G₁ ?_ ?_
 ·rintro i m cm' news s o ⟨_, us, k, rfl, _⟩ F
  exact ⟨_, _, F.at 2 rfl, rfl⟩
 ·rintro i v m₁ cm₁ news o₁ s₅ K hi hv ⟨c2, us, k, rfl, hu⟩ G₂ q
  obtain ⟨h₅', g₅, d₅, k₅, o₅⟩ := s₅
  have hi' : i < os.length := by rw [← hL.1]; exact hi
  (refine x3_3 (hL.2 i _ (List.getElem?_eq_getElem hi')) ?_; intro a ys ka e1 e2 e3)
  have ev : v = .ref a := Option.some.inj (hv.symm.trans e1)
  subst ev
  have hyl : ys.length = 5 := by have := congrArg List.length e2; rw [List.length_map] at this; rw [this]; exact ho2 _ (List.getElem_mem hi')
  refine wpAny_pure (wpAny_assign_Name ?_)
  refine st_C G₂ (by kernel_rfl) (by kernel_rfl!) (by kernel_rfl) (by kernel_rfl) hcn hcz fun h₆ G₃ => ?_
  clear G₁ G₂
  have c3 : upd cm₁ "spots" (.ref a) "spots" = some (.ref a) := rfl
  have c4 : upd cm₁ "spots" (.ref a) "shares" = some (.ref sa) := c2
  revert c3 c4 G₃
  generalize upd cm₁ "spots" (.ref a) = cm₆
  intro G₃ c3 c4
  refine wpAny_tests_nil ?_
  (ktn_no "iP"; exact rfl)
  ktn_no "z"
  refine GM.join ?_
  ktn_no "z"
  refine zaM (B := under s₃ ((D, lsO [] 0) :: (I, itO O 0) :: (O, lsO vs kk) :: (l ++ rest))) (L := C) (m := m₁) (cm := cm₆) (s₀ := s₃) (by kernel_rfl) (by rfl) (by kernel_rfl) (by kernel_rfl) (by kernel_rfl) (fun _ => rfl) ?_
  ktn_no "z"
  have hS' : (sa, lsO vS kS) ∈ (I, o₁) :: (D, lsO (strValues us) k) :: (O, lsO vs kk) :: (l ++ rest) := by simp [hS]
  have hY' : (a, lsO (inV ys) ka) ∈ (I, o₁) :: (D, lsO (strValues us) k) :: (O, lsO vs kk) :: (l ++ rest) := by simp [e3]
  have hlS : ∀ p ∈ lS, p ∈ (I, o₁) :: (D, lsO (strValues us) k) :: (O, lsO vs kk) :: (l ++ rest) := fun p hp => by simp [hl p hp]
  obtain ⟨jS, hjS⟩ := List.getElem?_of_mem hS'
  refine zak G₃ hjS fun J h₇ G₄ => ?_
  clear G₃
  refine ⟨_, G₄, fun V C₂ s₆ s₇ _ G₅ X => ?_⟩
  have X₁ := X.perm (news' := (J, itO sa 0) :: (V, lsO [] 0) :: ((I, o₁) :: (D, lsO (strValues us) k) :: (O, lsO vs kk) :: (l ++ rest))) (by ktn_no "perm_tac")
  clear G₄ G₅ X
  revert hS' hY' hlS X₁
  generalize hX : (I, o₁) :: (D, lsO (strValues us) k) :: (O, lsO vs kk) :: (l ++ rest) = restX
  intro hS' hY' hlS X₁
  have lv := hP.1
  rw [List.length_map] at lv
  refine zdl (zag J sa vS) (zaA J sa) rfl rfl R.handled (by ktn_no "om") (fun j v => ∃ t, v = .str (abS (decide ((os[i].getD (ps.getD j default).1 0) > os[i].getD (ps.getD j default).2 0))) t) rfl X₁ (fun m l k s o F => ⟨_, _, (F.nw _ (.tail _ (.tail _ hS'))).1, rfl⟩) (fun j v m0 l1 k0 o0 s0 K hj hv hO X₂ q => ?_) (fun m₅ ls kd s' hl' hv X₃ => ?_)
  ·obtain ⟨h, g, d, tk, os'⟩ := s0
   have hjy : j < ps.length := by ktn_no "o4"
   obtain ⟨b, t1, u1, hb, hbl⟩ := hP.2 j _ (by rw [List.getElem?_map, List.getElem?_eq_getElem hjy]; rfl)
   have ev : v = .ref b := Option.some.inj (hv.symm.trans hb)
   subst ev
   subst hO
   refine list_go (X₂.at 0 rfl) ?_
   have ht : h.get? b = some (tupO [.int (ps[j].1 : Nat) t1, .int (ps[j].2 : Nat) u1]) := (X₂.nw _ (.tail _ (.tail _ (hlS _ hbl)))).1
   refine zao X₂ R.handled ht (by kernel_rfl) (by kernel_rfl) (by kernel_rfl) (by kernel_rfl) fun h₆ k₆ X₄ => ?_
   clear X₁ X₂
   obtain ⟨q1, q2⟩ := hp2 _ (List.getElem_mem hjy)
   have gy : h₆.get? a = some (lsO (inV ys) ka) := (X₄.nw _ (.tail _ (.tail _ hY'))).1
   refine wpAny_IfExp ?_
   ktn_no "z"
   refine zaI (k := ps[j].1) gy (by ktn_no "om") (inV_at (by ktn_no "om")) ?_
   ktn_no "z"
   refine zaI (k := ps[j].2) gy (by ktn_no "om") (inV_at (by ktn_no "om")) ?_
   ktn_no "z"
   have hgj : ps.getD j default = ps[j] := by rw [List.getD_eq_getElem?_getD, List.getElem?_eq_getElem hjy]; rfl
   rw [e2]
   cases hb : decide (os[i].getD ps[j].2 0 < os[i].getD ps[j].1 0) with
   | true =>
    (ktn_no "iP"; exact rfl)
    ktn_no "z"
    exact q _ _ _ ⟨_, by rw [hgj, show decide (os[i].getD ps[j].1 0 > os[i].getD ps[j].2 0) = true from hb]; rfl⟩ (X₄.toks _)
   | false =>
    (ktn_no "iN"; exact Bool.false_ne_true)
    ktn_no "z"
    exact q _ _ _ ⟨_, by rw [hgj, show decide (os[i].getD ps[j].1 0 > os[i].getD ps[j].2 0) = false from hb]; rfl⟩ (X₄.toks _)
  ·refine ⟨_, _, _, _, X₃, fun s'' F₇ => ?_⟩
   obtain ⟨h₇', g₇, d₇, k₇, o₇⟩ := s''
   clear X₁ X₃
   (refine x1_2 (zcJ ls _ hv) ?_; intro zs eqX1 hz; subst eqX1)
   have hzl : zs.length = ps.length := by simp [strValues] at hl'; ktn_no "o4"
   have hzm : zs.map (·.1) = ps.map fun q => abS (decide (os[i].getD q.1 0 > os[i].getD q.2 0)) := by
    rw [hz, hl', lv]
    exact zau ps fun q => abS (decide (os[i].getD q.1 0 > os[i].getD q.2 0))
   have h1 : ∀ y ∈ zs.map (·.1), y.length ≤ 1 := fun y hy => by
    rw [hzm] at hy
    (refine x1_2 (List.mem_map.mp hy) ?_; intro q _ eqX2; subst eqX2)
    rw [abS_len]; exact Nat.le_refl _
   have hj : JoinOk (Str.ofString "") (zs.map (·.1)) = true := by
    unfold JoinOk
    rw [StrLaws.joinFits (B := 1) h1 (by rw [List.length_map, show (Str.ofString "").length = 0 by decide]; ktn_no "o4")]
    rfl
   ktn_no "z"
   refine zaZ (F₇.at 0 rfl) (.inl rfl) rfl hj fun t₉ k₉ => ?_
   have hn : Txt.join (Str.ofString "") (zs.map (·.1)) = kindS ps os[i] := by rw [hzm]; rfl
   rw [hn]
   have F₈ := F₇.drop 1
   clear F₇
   dsimp only [List.drop] at F₈
   subst hX
   refine app_at 1 F₈ rfl (by have := congrArg List.length hu; simp at this; simp [strValues]; ktn_no "o4") fun h₉ F₉ => ?_
   dsimp only [List.set] at F₉
   refine q _ _ ((D, lsO (strValues (us ++ [(kindS ps os[i], t₉)])) (k + 1)) :: (O, lsO vs kk) :: (l ++ rest)) _ ⟨c4, _, _, rfl, ?_⟩ (by
    have e : strValues (us ++ [(kindS ps os[i], t₉)]) = strValues us ++ [.str (kindS ps os[i]) t₉] := by simp [strValues]
    rw [e]
    exact F₉)
   rw [List.take_succ_eq_append_getElem hi', List.map_append, List.map_append, hu]
   rfl
 ·rintro m₁ cm₁ news s₅ ⟨_, us, k, rfl, hu⟩ G₂
  refine ⟨_, _, _, _, G₂, fun s'' F₇ => ?_⟩
  obtain ⟨h₇, g₇, d₇, k₇, o₇⟩ := s''
  clear G₁ G₂
  rw [hL.1, List.take_length] at hu
  ktn_no "z"
  refine zhp F₇ R.handled (i := 0) rfl (by have := congrArg List.length hu; simp at this; ktn_no "o4") fun S o h₈ k₈ hSo F₈ => ?_
  clear F₇
  ktn_no "z"
  rename_i h₉ F₉
  rw [hu] at hSo
  exact h S o _ hSo (F₉.sub (((List.sublist_append_right l rest).cons _).cons _ |>.cons₂ _))
end
section
variable {w : World} {B : Heap} {L I : Addr} {m cm : PySem.Str → Option Value} {cl : List (PySem.Str × Addr)} {news rest : List (Addr × Obj)} {s₀ s : Shared} {A : Around} {n : Nat}
theorem zgx {Q : Flow → Shared → Prop} {sa : Addr} (R : Room (n + 20) A) (HC : OwnC B (envK L).cells) :
  ∀ (k i : Nat) (m cm : PySem.Str → Option Value) (O : Addr) (vs : List Value) (l : List (Addr × Obj)) (kk : Nat) (o : Obj) (s : Shared),
   i + k = 5 → ObR 0 5 i o → LstIn (ordersF i) vs l → Fm w B L (envK L).cells s₀ m cm ((I, o) :: (O, lsO vs kk) :: (l ++ rest)) s → m "orders" = some (.ref O) → cm "shares" = some (.ref sa) →
   (∀ m' cm' O vs l kk s', LstIn (ordersF 5) vs l → m' "orders" = some (.ref O) → cm' "shares" = some (.ref sa) → Fm w B L (envK L).cells s₀ m' cm' ((O, lsO vs kk) :: (l ++ rest)) s' → Q .next s') →
   LoopC w A lkT (.ref I) lkB [] (envK L) Q s := by
 intro k
 induction k with
 | zero =>
  intro i m cm O vs l kk o s hi ho hL F m1 c1 hq
  refine zab ?_
  have S := zaf (w := w) I 0 1 5
  obtain ⟨h, g, dd, tk, os⟩ := s
  refine F.endI S R.handled hi ho trivial fun h' tk' F' => ?_
  dsimp only
  have : i = 5 := hi
  subst this
  exact wpAny_execs_nil (hq m cm O vs l kk _ hL m1 c1 F')
 | succ k ih =>
  intro i m cm O vs l kk o s hi ho hL F m1 c1 hq
  refine zab ?_
  have S := zaf (w := w) I 0 1 5
  obtain ⟨h, g, dd, tk, os⟩ := s
  have hi5 : i < 5 := Nat.lt_of_lt_of_le (Nat.lt_add_of_pos_right (Nat.succ_pos k)) (Nat.le_of_eq hi)
  refine F.nextI (d := dd) S hi5 ho trivial fun v h₁ k₁ o₁ hv ho₁ F₁ => ?_
  obtain ⟨ti, hv⟩ := rg0 hv
  subst hv
  dsimp only
  refine wpAny_pure (wpAny_assign_Name ?_)
  refine st_CO F₁ HC (by kernel_rfl) (by kernel_rfl!) (by kernel_rfl) (by kernel_rfl) fun h₂ F₂ => ?_
  clear F F₁
  have c2 : upd cm "place" (.int i ti) "shares" = some (.ref sa) := c1
  have c3 : upd cm "place" (.int i ti) "place" = some (.int i ti) := rfl
  revert c2 c3 F₂
  generalize upd cm "place" (.int i ti) = cm₂
  intro F₂ c2 c3
  have F₃ := F₂.perm (news' := (O, lsO vs kk) :: (l ++ (I, o₁) :: rest)) (by ktn_no "perm_tac")
  clear F₂
  refine wpAny_execs_cons ?_
  refine zdW (n := n) (p := i) (R.less (by ktn_no "le")) hi5 (F₃.toks _) HC hL m1 c3 fun O' vs' l' k' s' hL' F₄ => ?_
  clear F₃
  dsimp only
  refine wpAny_execs_nil ?_
  exact ih (i + 1) _ _ O' vs' l' k' o₁ _ ((Nat.succ_add_eq_add_succ i k).trans hi) ho₁ hL' (F₄.perm (by ktn_no "perm_tac")) rfl c2 hq
theorem zfF {h : Heap} {g : Array GenState} {d d₀ : Drawn} {tk tk₀ : Nat} {os : OsState} {l : Addr} {vs : List Value} {k : Nat} {x : Int} {u : Tok} {Q : Value → Shared → Prop} {E : Value → Shared → Prop} (F : Fm w B L cl s₀ m cm news ⟨h, g, d₀, tk₀, os⟩) (hl : h.get? l = some (lsO vs k)) (hlo : -(2 ^ 63 : Int) ≤ x) (hhi : x < 2 ^ 63) (hsz : vs.length * x.toNat ≤ 2 ^ 24)
  (q : ∀ D h', Fm w B L cl s₀ m cm ((D, lsO (List.replicate x.toNat vs).flatten 0) :: news) ⟨h', g, d, tk, os⟩ → Q (.ref D) ⟨h', g, d, tk, os⟩) : wpAny (M w) A (binaryOp .Mult (.ref l) (.int x u)) Q E ⟨h, g, d, tk, os⟩ := by
 have hsz' : vs.toArray.size * x.toNat ≤ 2 ^ 24 := by simpa using hsz
 refine wpAny_binaryOp_repeat_ref (s := ⟨h, g, d, tk, os⟩) (T := "list") (U := "int") (by decide) ⟨_, hl, rfl⟩ (fun s' => typeIs_int s' x u) noFill_list_mul PySem.F.fills_int_mul PySem.F.slot_int_rmul repeat_list PySem.F.slot_int_index.lookup
  (call_meets PySem.F.slot_int_rmul (typeIs_int _ x u) PySem.F.entry_int_rmul (PySem.F.args_int_rmul_2 _ _) (lm_int_rmul_list_any x u l vs.toArray k none #[])
   ⟨hl, rfl, ⟨_, hl, rfl⟩, call_meets PySem.F.slot_list_mul ⟨_, hl, rfl⟩ PySem.F.entry_list_mul (PySem.F.args_list_mul_2 _ _)
    (lm_list_mul_any l vs.toArray k none #[] x u (by simp [Builtin.List.listFitsIndex]; ktn_no "o4") (by ktn_no "om") (by simp [Builtin.List.listTooLong, sizeLine]; ktn_no "o4"))
    ⟨hl, ?_⟩⟩)
 have F₂ := F.push1 (g := g) (d := d) (tk := tk) ⟨.type "list", none, .seq (List.foldl (fun x1 x2 => x1 ++ x2) #[] (List.replicate (if vs.toArray.isEmpty = true then 0 else x.toNat) vs.toArray)), #[]⟩
 refine q _ _ ?_
 have e2 : (⟨.type "list", none, .seq (List.foldl (fun x1 x2 => x1 ++ x2) #[] (List.replicate (if vs.toArray.isEmpty = true then 0 else x.toNat) vs.toArray)), #[]⟩ : Obj) = lsO (List.replicate x.toNat vs).flatten 0 := by
  rw [listMul_foldl_if]
 rw [← e2]
 exact F₂
end
noncomputable def cntB (x : PySem.Str) : Int := Txt.count x (Str.ofString "b")
noncomputable def countsF (ks : List PySem.Str) (n : Nat) : List Int := (List.range n).map fun (j : Nat) => ((ks.countP fun x => cntB x == (j : Int) : Nat) : Int)
theorem zdb {ks ks' : List PySem.Str} (h : ks.Perm ks') (n : Nat) : countsF ks n = countsF ks' n := by
 unfold countsF
 refine List.map_congr_left fun j _ => ?_
 rw [h.countP_eq]
noncomputable abbrev lcFor : Stmt := body_law_kinds.getD 4 default
noncomputable abbrev lcT : Expr := (forParts lcFor).1
noncomputable abbrev lcB : List Stmt := (forParts lcFor).2.2.1
section
variable {w : World} {B : Heap} {L I : Addr} {m cm : PySem.Str → Option Value} {cl : List (PySem.Str × Addr)} {news rest : List (Addr × Obj)} {s₀ s : Shared} {A : Around} {n : Nat}
theorem zhS {h : Heap} {g : Array GenState} {d d₀ : Drawn} {tk tk₀ : Nat} {os : OsState} {l : Addr} {vs : List Value} {j i k : Nat} {v : Value} {t : Tok} {Q : Unit → Shared → Prop} {E : Value → Shared → Prop} (F : Fm w B L cl s₀ m cm news ⟨h, g, d₀, tk₀, os⟩) (hi : news[i]? = some (l, lsO vs k)) (hj : j < vs.length) (hsz : vs.length ≤ 100000)
  (q : ∀ h', Fm w B L cl s₀ m cm (news.set i (l, lsO (vs.set j v) k)) ⟨h', g, d, tk, os⟩ → Q () ⟨h', g, d, tk, os⟩) : wpAny (M w) A (setItem (.ref l) (.int (j : Nat) t) v) Q E ⟨h, g, d, tk, os⟩ := by
 obtain ⟨x, hx⟩ : ∃ x : Int, x = (j : Nat) := ⟨_, rfl⟩
 rw [← hx]
 have ho := F.at i hi
 have hl := isL ho
 have h0 : (0 : Int) ≤ x := by ktn_no "o4"
 have hfit : x < 2 ^ 63 := Int.lt_of_le_of_lt (show x ≤ 100000 by ktn_no "o4") (by decide)
 have hff := fitsIndex_of h0 hfit
 clear hfit
 unfold setItem
 try with_reducible refine wpAny_holding ?_
 first | refine wpAny_bind (wpAny_pure ?_) | skip
 refine wpAny_bind (wpAny_sequenceKey hl.typeIs (by decide) ?_)
 refine wpAny_bind (wpAny_callSpecial?_slot (name := Str.ofString "__setitem__") hl.typeIs slot_list_setitem
  (wpAny_call_entry slot_list_setitem hl.typeIs entry_list_setitem ?_ (args_list_setitem _ _ _)))
 show wpAny _ _ (Builtin.List.listSubscript? (.int x t) >>= _) _ _ _
 refine wpAny_bind (wpAny_listSubscript_int hff ?_)
 subst hx
 show wpAny _ _ ((seqItemAt l j >>= fun r => pure (r.map (j, ·))) >>= _) _ _ _
 refine wpAny_bind (wpAny_bind (wpAny_seqItemAt ho rfl (wpAny_pure ?_)))
 rw [show vs.toArray[j]? = some vs[j] by simp [List.getElem?_eq_getElem hj]]
 show wpAny _ _ (setSeqItemAt l j v >>= _) _ _ _
 refine wpAny_bind (wpAny_setSeqItemAt ho rfl ?_)
 have hfin : (h.update l (Obj.mapSeq (·.setIfInBounds j v))).get? l = some (lsO (vs.set j v) k) := by
  have := Heap.get?_update_self (Obj.mapSeq (·.setIfInBounds j v)) ho rfl
  rw [this]
  simp [Obj.mapSeq]
 have q' := q _ (F.set1 (g := g) (d := d) (tk := tk) (i := i) hi (Heap.SameBut.update ..) hfin)
 first
  | exact wpAny_bind (wpAny_pure (wpAny_pure ⟨.none, rfl, wpAny_pure q'⟩))
  | exact wpAny_pure ⟨.none, rfl, wpAny_pure q'⟩
end
theorem zbf (ks : List PySem.Str) (n j : Nat) (h : j < n) : (countsF ks n)[j]? = some ((ks.countP fun x => cntB x == (j : Int) : Nat) : Int) := by
 unfold countsF
 rw [List.getElem?_map, List.getElem?_range h]; rfl
theorem zdI {ks : List PySem.Str} {n j : Nat} {x : PySem.Str} (hx : cntB x = (j : Nat)) (hj : j < n) : countsF (ks ++ [x]) n = (countsF ks n).set j (((countsF ks n).getD j 0) + 1) := by
 apply List.ext_getElem?
 intro i
 rw [List.getElem?_set]
 by_cases hi : i < n
 ·rw [zbf _ _ _ hi]
  have hl : (countsF ks n).length = n := by simp [countsF]
  have hg : (countsF ks n).getD j 0 = ((ks.countP fun x => cntB x == (j : Int) : Nat) : Int) := by
   rw [List.getD_eq_getElem?_getD, zbf _ _ _ hj]; rfl
  rw [List.countP_append, List.countP_singleton, hx]
  by_cases e : j = i
  ·subst e
   have h1 : j < (countsF ks n).length := Nat.lt_of_lt_of_le hj (Nat.le_of_eq hl.symm)
   rw [hg]
   simp [h1]
  ·rw [if_neg e, zbf _ _ _ hi, if_neg (by simp; exact fun z => e (Int.ofNat_inj.mp z))]
   simp
 ·have h1 : (countsF (ks ++ [x]) n).length = n := by simp [countsF]
  have hl : (countsF ks n).length = n := by simp [countsF]
  rw [List.getElem?_eq_none (Nat.le_trans (Nat.le_of_eq h1) (Nat.le_of_not_lt hi)), if_neg (fun e : j = i => hi (e ▸ hj)), List.getElem?_eq_none (Nat.le_trans (Nat.le_of_eq hl) (Nat.le_of_not_lt hi))]
section
variable {w : World} {B : Heap} {L I : Addr} {m cm : PySem.Str → Option Value} {cl : List (PySem.Str × Addr)} {news rest : List (Addr × Obj)} {s₀ s : Shared} {A : Around} {n : Nat}
theorem zfA {Q : Flow → Shared → Prop} {N D : Addr} {us : List (PySem.Str × Tok)} {kN np : Nat} (R : Room (n + 20) A) (hus : ∀ u ∈ us, ∃ j : Nat, cntB u.1 = (j : Nat) ∧ j < np) (hnp : np ≤ 100) :
  ∀ (k i : Nat) (m : PySem.Str → Option Value) (ys : List (Int × Tok)) (kD : Nat) (o : Obj) (s : Shared),
   i + k = us.length → o = itO N i → ys.map (·.1) = countsF ((us.take i).map (·.1)) np → Fm w B L (envK L).cells s₀ m cm ((I, o) :: (N, lsO (strValues us) kN) :: (D, lsO (inV ys) kD) :: rest) s → m "counts" = some (.ref D) →
   (∀ m' ys kD s', ys.map (·.1) = countsF (us.map (·.1)) np → m' "counts" = some (.ref D) → Fm w B L (envK L).cells s₀ m' cm ((N, lsO (strValues us) kN) :: (D, lsO (inV ys) kD) :: rest) s' → Q .next s') →
   LoopC w A lcT (.ref I) lcB [] (envK L) Q s := by
 intro k
 induction k with
 | zero =>
  intro i m ys kD o s hi ho hy F m1 hq
  refine zab ?_
  have S := zag (w := w) I N (strValues us)
  have hsd := F.at 1 rfl
  obtain ⟨h, g, dd, tk, os⟩ := s
  refine F.endI S R.handled (by simp [strValues]; exact hi) ho ⟨_, _, hsd, rfl⟩ fun h' tk' F' => ?_
  dsimp only
  rw [List.take_of_length_le (l := us) (i := i) (Nat.le_of_eq hi.symm)] at hy
  exact wpAny_execs_nil (hq m ys kD _ hy m1 F')
 | succ k ih =>
  intro i m ys kD o s hi ho hy F m1 hq
  refine zab ?_
  have S := zag (w := w) I N (strValues us)
  have hsd := F.at 1 rfl
  obtain ⟨h, g, dd, tk, os⟩ := s
  have hlt : i < us.length := Nat.lt_of_lt_of_le (Nat.lt_add_of_pos_right (Nat.succ_pos k)) (Nat.le_of_eq hi)
  refine F.nextI (d := dd) S (by simp [strValues]; exact hlt) ho ⟨_, _, hsd, rfl⟩ fun v h₁ k₁ o₁ hv ho₁ F₁ => ?_
  have hv' : v = .str us[i].1 us[i].2 := by
   simp only [strValues, List.getElem?_map, List.getElem?_eq_getElem hlt] at hv
   exact (Option.some.inj hv).symm
  subst hv'
  clear hv hsd F
  dsimp only
  refine wpAny_pure (wpAny_assign_Name ?_)
  refine st_L F₁ (by kernel_rfl) (by kernel_rfl!) (by kernel_rfl) fun h₂ F₂ => ?_
  clear F₁
  have n1 : upd m "kind" (.str us[i].1 us[i].2) "counts" = some (.ref D) := m1
  have n2 : upd m "kind" (.str us[i].1 us[i].2) "kind" = some (.str us[i].1 us[i].2) := rfl
  revert n1 n2 F₂
  generalize upd m "kind" (.str us[i].1 us[i].2) = m₂
  intro F₂ n1 n2
  (refine x1_2 (hus _ (List.getElem_mem hlt)) ?_; intro j hj hjn)
  have hyl : ys.length = np := by have := congrArg List.length hy; simpa [countsF] using this
  have hjy : j < ys.length := by rw [hyl]; exact hjn
  ktn_no "ast"
  refine wpAny_execs_cons ?_
  refine wpAny_AugAssign_SubscriptAny ?_ (fun _ _ _ => rfl)
  ktn_no "z"
  refine GM.count ?_
  ktn_no "z"
  refine SC.count ?_
  have hj' : Txt.count us[i].1 (Str.ofString "b") = ((j : Nat) : Int) := hj
  rw [hj']
  refine wpAny_getItem_list (x := .int ys[j].1 ys[j].2) (isL (F₂.at 2 rfl)) (Int.natCast_nonneg j) (Int.lt_of_lt_of_le (Int.ofNat_lt.mpr (Nat.lt_of_lt_of_le hjn hnp)) (by decide)) (by simp [List.getElem?_eq_getElem hjy]) ?_
  ktn_no "z"
  refine zhS F₂ (i := 2) rfl (by simp; exact hjy) (by simp; exact hyl ▸ Nat.le_trans hnp (by decide)) fun h₃ F₃ => ?_
  dsimp only [List.set] at F₃
  clear F₂
  refine wpAny_execs_nil ?_
  dsimp only
  have e : (inV ys).set j (.int (ys[j].1 + 1) (k₁ + 1 + 1 + 1 + 1)) = inV (ys.set j (ys[j].1 + 1, k₁ + 1 + 1 + 1 + 1)) := by rw [inV, inV, List.map_set]
  rw [e] at F₃
  refine ih (i + 1) m₂ _ kD o₁ _ ((Nat.succ_add_eq_add_succ i k).trans hi) ho₁ ?_ F₃ n1 hq
  rw [List.map_set, List.take_succ_eq_append_getElem hlt, List.map_append, hy]
  have hg : (countsF ((us.take i).map (·.1)) np).getD j 0 = ys[j].1 := by
   rw [← hy, List.getD_eq_getElem?_getD, List.getElem?_map, List.getElem?_eq_getElem hjy]; rfl
  have := zdI (ks := (us.take i).map (·.1)) (n := np) (x := us[i].1) hj hjn
  rw [hg] at this
  exact this.symm
theorem zeS {x : PySem.Str} : ∀ (l acc : List PySem.Str), x ∈ l.foldl addK acc → x ∈ acc ∨ x ∈ l := by
 intro l
 induction l with
 | nil =>
  intro acc h
  exact .inl h
 | cons y l ih =>
  intro acc h
  rcases ih _ h with h | h
  ·unfold addK at h
   split at h
   ·exact .inl h
   ·rcases List.mem_append.mp h with h | h
    ·exact .inl h
    ·exact .inr (by rw [List.mem_singleton.mp h]; exact .head _)
  ·exact .inr (.tail _ h)
theorem zg6 : ∀ (l acc : List PySem.Str), (l.foldl addK acc).length ≤ acc.length + l.length := by
 intro l
 induction l with
 | nil =>
  intro acc
  exact Nat.le_refl _
 | cons y l ih =>
  intro acc
  have := ih (addK acc y)
  have h2 : (addK acc y).length ≤ acc.length + 1 := by unfold addK; split <;> simp
  rw [List.foldl_cons, List.length_cons]; exact Nat.le_trans this (Nat.le_trans (Nat.add_le_add_right h2 _) (Nat.le_of_eq (Nat.succ_add_eq_add_succ _ _)))
theorem zfJ (ps : List (Nat × Nat)) : (((ordersF 5).map (kindS ps)).foldl addK []).length ≤ 1000 := by
 refine Nat.le_trans (zg6 _ _) ?_
 rw [List.length_map]
 exact Nat.le_trans (Nat.le_of_eq (Nat.zero_add _)) (Nat.le_trans (zbD 5 (Nat.le_refl _)) (by decide))
noncomputable def kindsF (ps : List (Nat × Nat)) : List Int := countsF (((ordersF 5).map (kindS ps)).foldl addK []) (ps.length + 1)
theorem zfz {Q : Value → Shared → Prop} {E : Value → Shared → Prop} {sa : Addr} {vS : List Value} {lS : List (Addr × Obj)} {kS : Nat} {ps : List (Nat × Nat)} (R : Room (n + 61) A) (F : Fm w B L cl s₀ m cm rest s)
  (hP : PrsIn (natP ps) vS lS) (hp1 : ps.length ≤ 10) (hp2 : ∀ q ∈ ps, q.1 < 5 ∧ q.2 < 5) (hS : (sa, lsO vS kS) ∈ rest) (hl : ∀ p ∈ lS, p ∈ rest) (hc : ∀ o, ∃ j : Nat, cntB (kindS ps o) = (j : Nat) ∧ j < ps.length + 1)
  (h : ∀ D ys k s', ys.map (·.1) = kindsF ps → Fm w B L cl s₀ m cm ((D, lsO (inV ys) k) :: rest) s' → Q (.ref D) s') :
  wpAny (M w) A (call (.ref a_law_kinds) [.ref sa] []) Q E s := by
 refine zcM (n := n + 60) (fd := fd_law_kinds) (binds := [("shares", .ref sa)]) R F (zdq _) (zdF _) rfl (by rfl) rfl (fun z => by kernel_rfl) ?_ rfl rfl rfl
 intro Qo hQo L' s₁ hL' F₁ HC R₁
 obtain ⟨h₁, g₁, d₁, k₁, o₁⟩ := s₁
 revert F₁
 generalize hmL : bindL _ _ _ = mL
 generalize hcL : bindC _ _ _ = cmL
 intro F₁
 have c1 : cmL "shares" = some (.ref sa) := by rw [← hcL]; kernel_rfl
 clear hcL hmL
 ktn_no "ast"
 ktn_no "z"
 refine za4 (vs := []) F₁ (by simp) fun a0 h₂ F₂ => ?_
 clear F₁
 ktn_no "z"
 refine za4 (vs := [.ref a0]) F₂ (by simp) fun O h₃ F₃ => ?_
 clear F₂
 ktn_no "z"
 rename_i h₄ F₄
 refine wFor ?_ (fun x => rfl)
 ktn_no "z"
 refine range1 F₄ fun r h₅ t' u' v' k₅ F₅ => ?_
 refine zat F₅ (by decide) fun I o h₆ ho F₆ => ?_
 clear F₄ F₅ F₃
 have hL0 : LstIn (ordersF 0) [.ref a0] [(a0, lsO [] 0)] := by
  have h0 : LstIn [] [] [] := ⟨rfl, fun j y e => by simp at e⟩
  exact h0.snoc (ys := []) (a := a0) (k := 0) rfl
 refine zgx (n := n) (sa := sa) (R₁.less (by ktn_no "le")) HC 5 0 _ cmL O _ [(a0, lsO [] 0)] 0 o _ rfl ho hL0 F₆ rfl c1 fun m' cm' O' vs l kk s' hL n1 c2 F₇ => ?_
 obtain ⟨h₇, g₇, d₇, k₇, o₇⟩ := s'
 clear F₆ hL0 c1
 dsimp only
 refine wpAny_execs_cons ?_
 refine zhE (n := n) (os := ordersF 5) (ps := ps) (R₁.less (by ktn_no "le")) F₇ HC hL (zbD 5 (by decide)) (zdh 5 (by decide)) hP hp1 hp2 hS hl n1 c2 fun S oS s' hSo F₈ => ?_
 obtain ⟨h₈, g₈, d₈, k₈, o₈⟩ := s'
 clear F₇
 dsimp only
 have n2 : upd m' "kinds" (.ref S) "kinds" = some (.ref S) := rfl
 revert n2 F₈
 generalize upd m' "kinds" (.ref S) = m₈
 intro F₈ n2
 ktn_no "ast"
 ktn_no "z"
 refine za4 (vs := inV [(0, k₈)]) (F₈.toks 0) (by simp) fun Z h₉ F₉ => ?_
 ktn_no "z"
 refine PyProof.Rows.len_list (isL (F₉.nw _ (.tail _ (.tail _ hS))).1) (by have := hP.1; simp at this; simp; ktn_no "o4") ?_
 ktn_no "z"
 have hvl : vS.length = ps.length := by have := hP.1; simpa using this
 have hlen : (((vS.toArray.size : Nat) : Int) + 1).toNat = ps.length + 1 := by simp; ktn_no "o4"
 refine zfF F₉ (F₉.at 0 rfl) (by simp; ktn_no "o4") (by simp; ktn_no "o4") (by rw [hlen]; simp; ktn_no "o4") fun D h₁₀ F₁₀ => ?_
 rw [hlen] at F₁₀
 have e0' : (List.replicate (ps.length + 1) (inV [(0, k₈)])).flatten = inV (List.replicate (ps.length + 1) (0, k₈)) := by
  induction ps.length + 1 with
  | zero => rfl
  | succ q ih => rw [List.replicate_succ, List.flatten_cons, ih, List.replicate_succ]; rfl
 rw [e0'] at F₁₀
 clear F₉
 ktn_no "z"
 rename_i h₁₁ F₁₁
 refine wFor ?_ (fun x => rfl)
 ktn_no "z"
 have F₁₂ := F₁₁.perm (news' := (S, oS) :: (D, lsO (inV (List.replicate (ps.length + 1) (0, k₈))) 0) :: (Z, lsO (inV [(0, k₈)]) 0) :: rest) (by ktn_no "perm_tac")
 clear F₁₀ F₁₁
 refine zfp F₁₂ R₁.handled (i := 0) rfl hSo (zfJ ps) fun N h₁₃ d₁₃ k₁₃ us kN hus F₁₃ => ?_
 clear F₁₂
 refine zak F₁₃ (i := 0) rfl fun I₂ h₁₄ F₁₄ => ?_
 clear F₁₃
 have hu : ∀ u ∈ us, ∃ j : Nat, cntB u.1 = (j : Nat) ∧ j < ps.length + 1 := fun u hu => by
  have h1 : u.1 ∈ ((ordersF 5).map (kindS ps)).foldl addK [] := hus.mem_iff.mp (List.mem_map_of_mem hu)
  rcases zeS _ _ h1 with h1 | h1
  ·cases h1
  ·(refine x1_2 (List.mem_map.mp h1) ?_; intro o' _ e)
   rw [← e]
   exact hc o'
 have hy0 : (List.replicate (ps.length + 1) ((0 : Int), k₈)).map (·.1) = countsF ((us.take 0).map (·.1)) (ps.length + 1) := by
  apply List.ext_getElem (by simp [countsF])
  intro j h1 h2
  simp [countsF]
 refine zfA (n := n) (N := N) (D := D) (us := us) (kN := kN) (np := ps.length + 1) (rest := (S, oS) :: (Z, lsO (inV [(0, k₈)]) 0) :: rest) (R₁.less (by ktn_no "le")) hu (by ktn_no "om") us.length 0 _ _ 0 _ _ (by ktn_no "om") rfl hy0 (F₁₄.perm (by ktn_no "perm_tac")) (by ktn_no "k_val") fun m'' ys kD s' hy n3 F₁₅ => ?_
 obtain ⟨h₁₅, g₁₅, d₁₅, k₁₅, o₁₅⟩ := s'
 clear F₁₄
 dsimp only
 ktn_no "z"
 refine hQo _ _ <| Back.of ((F₁₅.toks _).sub (news' := (D, lsO (inV ys) kD) :: rest) (((((List.Sublist.refl rest).cons _).cons _).cons₂ _).cons _)) fun G => h _ _ _ _ ?_ G
 rw [hy]
 exact zdb hus _
end
noncomputable abbrev xS : PySem.Str := Str.ofString "x"
noncomputable def wordS (k : Nat) : PySem.Str := Txt.mul xS k ++ scS
section
variable {w : World} {A : Around} {E : Value → Shared → Prop} {s : Shared}
theorem zhi {a b : Int} {t u : Tok} {Q : Value → Shared → Prop} (hb : b ≠ 0) (hc : Builtin.divisionGoesByPylong a b = false) (h : Q (.int (a.fdiv b) s.toks) { s with toks := s.toks + 1 }) :
  wpAny (M w) A (binaryOp .FloorDiv (.int a t) (.int b u)) Q E s :=
 AutoIntOps.floordiv_1 (by simpa using hb) (by rw [hc]; exact Bool.false_ne_true) h
end
theorem zcS {x : Int} (h : 0 ≤ x) (k : Nat) : x.fmod k = ((x.toNat % k : Nat) : Int) := by
 obtain ⟨n, rfl⟩ := Int.eq_ofNat_of_zero_le h
 rw [Int.fmod_eq_emod_of_nonneg _ (Int.natCast_nonneg k)]; rfl
theorem zhg {x : Int} (h : 0 ≤ x) (k : Nat) : x.fdiv k = ((x.toNat / k : Nat) : Int) := by
 obtain ⟨n, rfl⟩ := Int.eq_ofNat_of_zero_le h
 rw [Int.fdiv_eq_ediv_of_nonneg _ (Int.natCast_nonneg k)]; rfl
theorem mod4 (x : Nat) : x % 5 ≤ 4 := Nat.le_of_lt_succ (Nat.mod_lt x (by decide))
theorem zfG {a : Int} {b : Nat} (hb : b ≤ 100) : Builtin.divisionGoesByPylong a (b : Nat) = false := by
 unfold Builtin.divisionGoesByPylong
 have : b.log2 ≤ 100 := Nat.le_trans (Nat.log2_le_self b) hb
 rw [Bool.and_eq_false_iff]
 refine .inl (decide_eq_false ?_)
 dsimp only
 split
 ·ktn_no "o4"
 ·rw [Int.natAbs_natCast]; ktn_no "o4"
section
variable {w : World} {B : Heap} {L : Addr} {m cm : PySem.Str → Option Value} {cl : List (PySem.Str × Addr)} {news rest : List (Addr × Obj)} {s₀ s : Shared} {A : Around} {n : Nat}
theorem zc8 {h : Heap} {g : Array GenState} {d d₀ : Drawn} {tk tk₀ : Nat} {os : OsState} {env : Env} {x1 x2 : PySem.Str} {p1 p2 pos : Pos} {k : Nat} {q : Addr} {v1 v2 : Value} {Q : Unit → Shared → Prop} (F : Fm w B L cl s₀ m cm news ⟨h, g, d₀, tk₀, os⟩) (HC : OwnC B cl) (hh : A.handled = none) (ht : h.get? q = some (tupO [v1, v2]))
  (hk : env.scope.kind = .function) (hx1 : env.kindOf x1 = some .local) (hx2 : env.kindOf x2 = some .cell) (hL : env.locals = L) (hLc : env.cells = cl) (hc2 : (cl.lookup x2).isSome = true)
  (hq : ∀ h' tk', Fm w B L cl s₀ (upd m x1 v1) (upd cm x2 v2) news ⟨h', g, d, tk', os⟩ → Q () ⟨h', g, d, tk', os⟩) : wpAny (M w) A (assign (.Tuple [.Name x1 p1, .Name x2 p2] k pos) env (.ref q)) Q NoE ⟨h, g, d, tk, os⟩ := by
 refine assign_Tuple_tuple hh (zbe ht) rfl rfl fun h₁ he => ?_
 refine assignInOrder_cons (wpAny_assign_Name (st_L (F.keepAll (d := d) (tk := tk) (zbN he)) hk hx1 hL fun h₂ F₂ => ?_))
 refine assignInOrder_cons (wpAny_assign_Name (st_CO F₂ HC hk hx2 hLc hc2 fun h₃ F₃ => ?_))
 exact assignInOrder_nil (hq _ _ F₃)
theorem law_2 {Q : Flow → Shared → Prop} {N : Addr} {ns : List (Int × Tok)} {k : Nat} (R : Room (n + 20) A) (F : Fm w B L (envLaw L).cells s₀ m cm rest s) (HC : OwnC B (envLaw L).cells) (hN : (N, lsO (inV ns) k) ∈ rest) (hlen : ns.length = 6) (hns : ∀ c ∈ ns, 0 ≤ c.1)
  (m1 : m "numbers" = some (.ref N))
  (h : ∀ W ws k' t (ks : List Nat) (wd : Nat) s', ks.length = 5 → (∀ c ∈ ks, c ≤ 4) → ws.map (·.1) = ks.map wordS → wd ≤ 10 → Fm w B L (envLaw L).cells s₀ (upd m "words" (.ref W)) (upd cm "width" (.int (3 + wd : Nat) t)) ((W, lsO (strValues ws) k') :: rest) s' → Q .next s') :
  wpAny (M w) A (exec (lawSt 2) (envLaw L)) Q NoE s := by
 obtain ⟨h₁, g₁, d₁, k₁, o₁⟩ := s
 ktn_no "ast"
 refine Assign_Tuple ?_ rfl rfl
 refine Tuple_ ?_
 refine zaG ?_ (by kernel_rfl)
 refine zaM (B := B) (L := L) (m := m) (cm := cm) (s₀ := s₀) (by kernel_rfl) (by rfl) (by kernel_rfl) (by kernel_rfl) (by kernel_rfl) (fun _ => rfl) ?_
 refine za7 ?_
 ktn_no "z"
 refine evalPart_none_step ?_
 refine evalPart_some_step ?_
 ktn_no "z"
 obtain ⟨j, hj⟩ := List.getElem?_of_mem hN
 refine .mk (F.toks _) hj (by simp; ktn_no "o4") .none (.int (5 : Nat) _) fun y h₂ ky F₂ => ?_
 rw [slicePick_upto'] at F₂
 have e0 : ((inV ns).toArray.toList.take 5).toArray.toList = inV (ns.take 5) := by simp [inV]
 rw [e0] at F₂
 clear F
 dsimp only
 refine zak F₂ (i := 0) rfl fun I h₄ F₃ => ?_
 clear F₂
 refine ⟨_, F₃, fun D C s₃ s₄ _ F₄ G => ?_⟩
 have G₁ := G.perm (news' := (I, itO y 0) :: (D, lsO [] 0) :: (y, lsO (inV (ns.take 5)) ky) :: rest) (by ktn_no "perm_tac")
 refine zas (zag I y (inV (ns.take 5))) (zaA I y) rfl rfl R.handled (by simp; exact Nat.le_trans (Nat.min_le_left _ _) (by decide)) (fun j v => ∃ t, v = .str (wordS (((ns.take 5).getD j default).1.toNat % 5)) t) rfl G₁ (fun m l k s o F => ⟨_, _, F.at 2 rfl, rfl⟩) (fun j v m0 l1 k0 o0 s0 K hj hv G₂ q => ?_) (fun m₅ ls kd s' hl' hv G₃ => ?_)
 ·obtain ⟨h, g, d, tk, os⟩ := s0
  have hlt : j < (ns.take 5).length := by simpa using hj
  have hv' : v = .int (ns.take 5)[j].1 (ns.take 5)[j].2 := by
   simp only [inV, List.getElem?_map, List.getElem?_eq_getElem hlt] at hv
   exact (Option.some.inj hv).symm
  have hp := hns _ (List.mem_of_mem_take (List.getElem_mem hlt))
  subst hv'
  refine wpAny_pure (wpAny_assign_Name ?_)
  refine st_L G₂ (by kernel_rfl) (by kernel_rfl!) (by kernel_rfl) fun h₆ G₃ => ?_
  clear G₁ G₂ G F₄ F₃
  ktn_no "z"
  refine mod_int (by decide) ?_
  have e5 : (ns.take 5)[j].1.fmod 5 = (((ns.take 5)[j].1.toNat % 5 : Nat) : Int) := zcS hp 5
  rw [e5]
  have hm5 : (ns.take 5)[j].1.toNat % 5 ≤ 4 := mod4 _
  have hl1 := za1 xS ((ns.take 5)[j].1.toNat % 5)
  rw [show xS.length = 1 by decide, Nat.one_mul] at hl1
  refine zdO (x := xS) (by decide) (Nat.le_trans hm5 (by decide)) fun t₅ k₅ => ?_
  ktn_no "z"
  refine SB.add (fun t₆ k₆ => ?_) (Nat.le_trans (Nat.add_le_add (Nat.le_trans hl1 hm5) (Nat.le_of_eq (show (Str.ofString ";").length = 1 by decide))) (by decide))
  have hy : ∀ t, ∃ t', Value.str (Txt.mul xS ((((ns.take 5)[j].1.toNat % 5 : Nat)) : Int) ++ Str.ofString ";") t = Value.str (wordS (((ns.take 5).getD j default).1.toNat % 5)) t' := fun t => ⟨t, by
   rw [List.getD_eq_getElem?_getD, List.getElem?_eq_getElem hlt]; rfl⟩
  exact q _ _ _ (hy _) (G₃.toks _)
 ·refine ⟨_, _, _, _, G₃, fun s'' F₇ => ?_⟩
  obtain ⟨h₇, g₇, d₇, k₇, o₇⟩ := s''
  clear G G₁ G₃ F₄ F₃
  ktn_no "z"
  have hN7 := (F₇.nw _ (show (N, lsO (inV ns) k) ∈ _ from .tail _ (.tail _ hN))).1
  have h5 : 5 < ns.length := by rw [hlen]; decide
  have hv6 : (inV ns)[5]? = some (.int (ns[5]'h5).1 (ns[5]'h5).2) := by simp [List.getElem?_eq_getElem (h5)]
  have hp6 := hns _ (List.getElem_mem (h5))
  refine zaI (k := 5) hN7 (by decide) hv6 ?_
  ktn_no "z"
  refine mod_int (by decide) ?_
  have e11 : (ns[5]'h5).1.fmod 11 = (((ns[5]'h5).1.toNat % 11 : Nat) : Int) := zcS hp6 11
  rw [e11]
  ktn_no "z"
  refine zae (by simp) ?_
  rw [show (3 : Int) + (((ns[5]'h5).1.toNat % 11 : Nat) : Int) = ((3 + (ns[5]'h5).1.toNat % 11 : Nat) : Int) from rfl]
  have F₈ := fun t => F₇.push1 (g := g₇) (d := d₇) (tk := k₇) (tupO [.ref D, .int ((3 + (ns[5]'h5).1.toNat % 11 : Nat) : Int) t])
  refine zc8 (F₈ _) HC R.handled ((F₈ _).at 0 rfl) (by kernel_rfl) (by kernel_rfl) (by kernel_rfl) (by kernel_rfl) (by kernel_rfl) (by kernel_rfl) fun h₉ k₉ F₉ => ?_
  obtain ⟨wl, rfl, hwl⟩ : ∃ wl : List (PySem.Str × Tok), ls = strValues wl ∧ wl.map (·.1) = (List.range ls.length).map fun j => wordS (((ns.take 5).getD j default).1.toNat % 5) := zcJ ls _ hv
  have hwl6 : (strValues wl).length = 5 := by rw [hl']; simp; ktn_no "o4"
  rw [hwl6] at hwl
  refine h D wl kd _ ((List.range 5).map fun j => ((ns.take 5).getD j default).1.toNat % 5) ((ns[5]'h5).1.toNat % 11) _ (by simp) (fun c hc => ?_) (by rw [hwl, List.map_map]; rfl) (Nat.le_of_lt_succ (Nat.mod_lt _ (by decide))) (F₉.sub ((((List.sublist_cons_self _ _)).cons₂ _).cons _))
  (refine x1_2 (List.mem_map.mp hc) ?_; intro j _ eqX2; subst eqX2)
  exact mod4 _
noncomputable def hideS : List PySem.Str := [⟨#[]⟩, ⟨#[92, 41]⟩, ⟨#[34, 41, 34]⟩, ⟨#[92, 34]⟩, ⟨#[34, 40, 34]⟩]
theorem law_3 {Q : Flow → Shared → Prop} (R : Room (n + 20) A) (F : Fm w B L (envLaw L).cells s₀ m cm rest s) (HC : OwnC B (envLaw L).cells)
  (h : ∀ H hs k s', hs.map (·.1) = hideS → Fm w B L (envLaw L).cells s₀ m (upd cm "hides" (.ref H)) ((H, lsO (strValues hs) k) :: rest) s' → Q .next s') :
  wpAny (M w) A (exec (lawSt 3) (envLaw L)) Q NoE s := by
 obtain ⟨h₁, g₁, d₁, k₁, o₁⟩ := s
 ktn_no "ast"
 ktn_no "z"
 refine P.chr_of_int (by decide) ?_
 ktn_no "z"
 refine SB.add (fun t₂ k₂ => ?_) (by decide)
 ktn_no "z"
 refine P.chr_of_int (by decide) ?_
 ktn_no "z"
 refine SB.add (fun t₃ k₃ => ?_) (by decide)
 ktn_no "z"
 refine za4 (vs := [.str (Str.ofString "") _, .str ((⟨#[(92 : Int).toNat]⟩ : PySem.Str) ++ Str.ofString ")") t₂, .str (Str.ofString "\")\"") _, .str ((⟨#[(92 : Int).toNat]⟩ : PySem.Str) ++ Str.ofString "\"") t₃, .str (Str.ofString "\"(\"") _]) (F.toks 0) (by simp) fun H h₅ F₅ => ?_
 ktn_no "z"
 rename_i h₆ F₆
 refine h H [(Str.ofString "", _), ((⟨#[(92 : Int).toNat]⟩ : PySem.Str) ++ Str.ofString ")", t₂), (Str.ofString "\")\"", _), ((⟨#[(92 : Int).toNat]⟩ : PySem.Str) ++ Str.ofString "\"", t₃), (Str.ofString "\"(\"", _)] 0 _ ?_ F₆
 simp only [List.map_cons, List.map_nil]
 decide
theorem law_4 {Q : Flow → Shared → Prop} {N H : Addr} {ns : List (Int × Tok)} {hs : List (PySem.Str × Tok)} {k kH : Nat} (R : Room (n + 20) A) (F : Fm w B L (envLaw L).cells s₀ m cm rest s) (HC : OwnC B (envLaw L).cells) (hN : (N, lsO (inV ns) k) ∈ rest) (hlen : ns.length = 6) (hns : ∀ c ∈ ns, 0 ≤ c.1)
  (hH : (H, lsO (strValues hs) kH) ∈ rest) (hhs : hs.map (·.1) = hideS) (m1 : m "numbers" = some (.ref N)) (c1 : cm "hides" = some (.ref H))
  (h : ∀ M ms k' (is : List Nat) s', is.length = 5 → (∀ i ∈ is, i ≤ 4) → ms.map (·.1) = is.map (fun i => hideS.getD i default) → Fm w B L (envLaw L).cells s₀ (upd m "marks" (.ref M)) cm ((M, lsO (strValues ms) k') :: rest) s' → Q .next s') :
  wpAny (M w) A (exec (lawSt 4) (envLaw L)) Q NoE s := by
 obtain ⟨h₁, g₁, d₁, k₁, o₁⟩ := s
 ktn_no "ast"
 refine zaw (B := B) (L := L) (m := m) (cm := cm) (s₀ := s₀) (by kernel_rfl) (by kernel_rfl) (by rfl) (by kernel_rfl) (by kernel_rfl) (by kernel_rfl) (fun _ => rfl) (by kernel_rfl) (by kernel_rfl) (by kernel_rfl) ?_
 refine za7 ?_
 ktn_no "z"
 refine evalPart_none_step ?_
 refine evalPart_some_step ?_
 ktn_no "z"
 obtain ⟨j, hj⟩ := List.getElem?_of_mem hN
 refine .mk (F.toks _) hj (by simp; ktn_no "o4") .none (.int (5 : Nat) _) fun y h₂ ky F₂ => ?_
 rw [slicePick_upto'] at F₂
 have e0 : ((inV ns).toArray.toList.take 5).toArray.toList = inV (ns.take 5) := by simp [inV]
 rw [e0] at F₂
 clear F
 dsimp only
 refine zak F₂ (i := 0) rfl fun I h₄ F₃ => ?_
 clear F₂
 refine ⟨_, F₃, fun D C s₃ s₄ _ F₄ G => ?_⟩
 have G₁ := G.perm (news' := (I, itO y 0) :: (D, lsO [] 0) :: (y, lsO (inV (ns.take 5)) ky) :: rest) (by ktn_no "perm_tac")
 have hhl : hs.length = 5 := by have := congrArg List.length hhs; simpa [hideS] using this
 refine zas (zag I y (inV (ns.take 5))) (zaA I y) rfl rfl R.handled (by simp; exact Nat.le_trans (Nat.min_le_left _ _) (by decide)) (fun j v => ∃ t, v = .str (hideS.getD (((ns.take 5).getD j default).1.toNat / 5 % 5) default) t) rfl G₁ (fun m l k s o F => ⟨_, _, F.at 2 rfl, rfl⟩) (fun j v m0 l1 k0 o0 s0 K hj hv G₂ q => ?_) (fun m₅ ls kd s' hl' hv G₃ => ?_)
 ·obtain ⟨h, g, d, tk, os⟩ := s0
  have hlt : j < (ns.take 5).length := by simpa using hj
  have hv' : v = .int (ns.take 5)[j].1 (ns.take 5)[j].2 := by
   simp only [inV, List.getElem?_map, List.getElem?_eq_getElem hlt] at hv
   exact (Option.some.inj hv).symm
  have hp := hns _ (List.mem_of_mem_take (List.getElem_mem hlt))
  subst hv'
  refine wpAny_pure (wpAny_assign_Name ?_)
  refine st_L G₂ (by kernel_rfl) (by kernel_rfl!) (by kernel_rfl) fun h₆ G₃ => ?_
  clear G₁ G₂ G F₄ F₃
  ktn_no "z"
  refine zhi (by decide) (zfG (b := 5) (by decide)) ?_
  ktn_no "z"
  refine mod_int (by decide) ?_
  have e3 : ((ns.take 5)[j].1.fdiv 5).fmod 5 = (((ns.take 5)[j].1.toNat / 5 % 5 : Nat) : Int) := by
   rw [show (ns.take 5)[j].1.fdiv 5 = (((ns.take 5)[j].1.toNat / 5 : Nat) : Int) from zhg hp 5]
   exact zcS (Int.natCast_nonneg _) 5
  rw [e3]
  have hlt5 : (ns.take 5)[j].1.toNat / 5 % 5 < hs.length := by rw [hhl]; exact Nat.mod_lt _ (by decide)
  have gh : h₆.get? H = some (lsO (strValues hs) kH) := (G₃.nw _ (.tail _ (.tail _ (.tail _ hH)))).1
  refine zaI (k := (ns.take 5)[j].1.toNat / 5 % 5) (v := .str (hs[(ns.take 5)[j].1.toNat / 5 % 5]).1 (hs[(ns.take 5)[j].1.toNat / 5 % 5]).2) gh (Nat.lt_trans (Nat.mod_lt _ (by decide)) (by decide)) (by simp only [strValues, List.getElem?_map, List.getElem?_eq_getElem hlt5]; rfl) ?_
  have hy : ∀ t, ∃ t', Value.str (hs[(ns.take 5)[j].1.toNat / 5 % 5]).1 t = Value.str (hideS.getD (((ns.take 5).getD j default).1.toNat / 5 % 5) default) t' := fun t => ⟨t, by
   rw [List.getD_eq_getElem?_getD (l := ns.take 5), List.getElem?_eq_getElem hlt, ← hhs, List.getD_eq_getElem?_getD, List.getElem?_map, Option.getD_some, List.getElem?_eq_getElem hlt5]; rfl⟩
  exact q _ _ _ (hy _) (G₃.toks _)
 ·refine ⟨_, _, _, _, G₃, fun s'' F₇ => ?_⟩
  (refine x1_2 (zcJ ls _ hv) ?_; intro ms eqX1 hms; subst eqX1)
  refine h D ms kd ((List.range 5).map fun j => ((ns.take 5).getD j default).1.toNat / 5 % 5) _ (by simp) (fun c hc => ?_) ?_ (F₇.sub (((List.sublist_cons_self _ _)).cons₂ _))
  ·(refine x1_2 (List.mem_map.mp hc) ?_; intro j _ eqX2; subst eqX2)
   exact mod4 _
  ·have e5 : (strValues ms).length = 5 := by rw [hl']; simp; ktn_no "o4"
   rw [hms, e5, List.map_map]
   rfl
end
theorem word_ok {ws : List (PySem.Str × Tok)} {ks : List Nat} (hw : ws.map (·.1) = ks.map wordS) (hk : ∀ c ∈ ks, c ≤ 4) : (∀ z ∈ ws, Word 59 (e0, z.1)) ∧ ∀ z ∈ ws, z.1.length ≤ 100 := by
 have key : ∀ k, k ≤ 4 → (∃ l : Array Nat, (wordS k).cps = l.push 59) ∧ (wordS k).length ≤ 100 := fun k hk => by
  refine ⟨⟨(Txt.mul xS k).cps, ?_⟩, ?_⟩
  ·show (Txt.mul xS k ++ scS).cps = _
   rw [Str.cps_append, show scS.cps = #[59] by decide]
   simp
  ·unfold wordS
   rw [Str.length_append]
   have := za1 xS k
   rw [show xS.length = 1 by decide] at this
   rw [show scS.length = 1 by decide]
   ktn_no "o4"
 constructor
 ·intro z hz
  have : z.1 ∈ ks.map wordS := by rw [← hw]; exact List.mem_map_of_mem hz
  (refine x1_2 (List.mem_map.mp this) ?_; intro k hk' e)
  obtain ⟨h1, h2⟩ := key k (hk k hk')
  rw [← e]
  exact ⟨rfl, h1, Nat.le_trans h2 (by decide)⟩
 ·intro z hz
  have : z.1 ∈ ks.map wordS := by rw [← hw]; exact List.mem_map_of_mem hz
  (refine x1_2 (List.mem_map.mp this) ?_; intro k hk' e)
  rw [← e]
  exact (key k (hk k hk')).2
theorem zfv (a b c d e : Value) : (slicePick #[a, b, c, d, e] none none (some (-1))).toList = [e, d, c, b, a] := by
 with_unfolding_all rfl
theorem fiveV {α : Type} {l : List α} (h : l.length = 5) : ∃ a b c d e, l = [a, b, c, d, e] := by
 obtain ⟨a, l, rfl⟩ := List.exists_cons_of_length_eq_add_one h
 obtain ⟨b, l, rfl⟩ := List.exists_cons_of_length_eq_add_one (Nat.succ.inj h)
 obtain ⟨c, l, rfl⟩ := List.exists_cons_of_length_eq_add_one (Nat.succ.inj (Nat.succ.inj h))
 obtain ⟨d, l, rfl⟩ := List.exists_cons_of_length_eq_add_one (Nat.succ.inj (Nat.succ.inj (Nat.succ.inj h)))
 obtain ⟨e, l, rfl⟩ := List.exists_cons_of_length_eq_add_one (Nat.succ.inj (Nat.succ.inj (Nat.succ.inj (Nat.succ.inj h))))
 cases l with
 | nil => exact ⟨a, b, c, d, e, rfl⟩
 | cons x l => cases h
theorem zdA {vs : List Value} (h : vs.length = 5) : (slicePick vs.toArray none none (some (-1))).toList = vs.reverse := by
 obtain ⟨a, b, c, d, e, rfl⟩ := fiveV h
 exact zfv a b c d e
section
variable {w : World} {B : Heap} {L : Addr} {m cm : PySem.Str → Option Value} {cl : List (PySem.Str × Addr)} {news rest : List (Addr × Obj)} {s₀ s : Shared} {A : Around} {n : Nat}
theorem law_5 {Q : Flow → Shared → Prop} {W Ma : Addr} {us ms : List (PySem.Str × Tok)} {kW kM : Nat} {mx : Int} {tw : Tok} (R : Room (n + 70) A) (F : Fm w B L (envLaw L).cells s₀ m cm rest s) (HC : OwnC B (envLaw L).cells)
  (hus : ∀ z ∈ us, Word 59 (e0, z.1)) (hu1 : ∀ z ∈ us, z.1.length ≤ 100) (hul : us.length = 5) (hW : (W, lsO (strValues us) kW) ∈ rest) (hms : ms.length = 5) (hml : ∀ y ∈ ms, y.1.length ≤ 10) (hM : (Ma, lsO (strValues ms) kM) ∈ rest)
  (m1 : m "words" = some (.ref W)) (m2 : m "marks" = some (.ref Ma)) (c1 : cm "width" = some (.int mx tw))
  (h : ∀ t u s', Fm w B L (envLaw L).cells s₀ (upd (upd m "back" (.str (textF ((List.range 5).map (reachF mx (us.reverse.map (·.1)))) (ms.reverse.map (·.1))) u)) "forth" (.str (textF ((List.range 5).map (reachF mx (us.map (·.1)))) (ms.map (·.1))) t)) cm rest s' → Q .next s') :
  wpAny (M w) A (exec (lawSt 5) (envLaw L)) Q NoE s := by
 obtain ⟨h₁, g₁, d₁, k₁, o₁⟩ := s
 ktn_no "ast"
 refine Assign_Tuple_swapped (names := ["forth", "back"]) ?_ (by kernel_rfl) (by kernel_rfl)
 refine Tuple_ ?_
 refine zaG ?_ (by kernel_rfl)
 ktn_no "z"
 refine zdn (n := n + 5) (R.less (by ktn_no "le")) (F.toks _) hus hu1 hul hW hms hml hM fun t s' F₂ => ?_
 obtain ⟨h₂, g₂, d₂, k₂, o₂⟩ := s'
 clear F
 ktn_no "z"
 refine wpAny_Slice ?_
 refine evalPart_none_step ?_
 refine evalPart_none_step ?_
 refine evalPart_some_step ?_
 ktn_no "z"
 have F₃ := fun t => F₂.push1 (g := g₂) (d := d₂) (tk := k₂) (slO .none .none (.int (-1) t))
 refine zbi (F₃ _) ((F₃ _).nw _ (.tail _ hW)).1 ((F₃ _).at 0 rfl) .none .none (.int _ _) (by simp) (by simp [strValues]; ktn_no "o4") fun y₁ h₄ ky F₄ => ?_
 rw [zdA (by simp [strValues]; exact hul)] at F₄
 rw [show (strValues us).reverse = strValues us.reverse by simp [strValues]] at F₄
 clear F₂ F₃
 ktn_no "z"
 refine wpAny_Slice ?_
 refine evalPart_none_step ?_
 refine evalPart_none_step ?_
 refine evalPart_some_step ?_
 ktn_no "z"
 have F₅ := fun t => F₄.push1 (g := g₂) (d := d₂) (tk := k₂) (slO .none .none (.int (-1) t))
 refine zbi (F₅ _) ((F₅ _).nw _ (.tail _ (.tail _ (.tail _ hM)))).1 ((F₅ _).at 0 rfl) .none .none (.int _ _) (by simp) (by simp [strValues]; ktn_no "o4") fun y₂ h₆ ky₂ F₆ => ?_
 rw [zdA (by simp [strValues]; exact hms)] at F₆
 rw [show (strValues ms).reverse = strValues ms.reverse by simp [strValues]] at F₆
 clear F₄ F₅
 ktn_no "z"
 refine zdn (n := n + 5) (us := us.reverse) (ms := ms.reverse) (R.less (by ktn_no "le")) (F₆.toks _) (fun z hz => hus z (List.mem_reverse.mp hz)) (fun z hz => hu1 z (List.mem_reverse.mp hz)) (by simpa using hul) (.tail _ (.tail _ (.head _))) (by simpa using hms) (fun z hz => hml z (List.mem_reverse.mp hz)) (.head _) fun u s' F₇ => ?_
 obtain ⟨h₇, g₇, d₇, k₇, o₇⟩ := s'
 clear F₆
 ktn_no "z"
 refine zca (F₇.toks 0) (by simp) fun T h₈ F₈ => ?_
 clear F₇
 refine zaS R.handled (F₈.at 0 rfl) fun h₄ he => ?_
 have F₉ := F₈.keepAll (d := d₇) (tk := k₇) (zbN he)
 clear F₈
 refine assignInOrder_cons (bindName_ (st_L F₉ (by kernel_rfl) (by kernel_rfl) (by kernel_rfl) fun h₅ F₆ => ?_))
 refine assignInOrder_cons (bindName_ (st_L F₆ (by kernel_rfl) (by kernel_rfl) (by kernel_rfl) fun h₆ F₇ => ?_))
 exact assignInOrder_nil (h _ _ _ (F₇.drop 5))
end
noncomputable def pairs2 (C : Nat → Nat → Bool) (a j : Nat) : List (Int × Int) := ((List.range j).filter fun k => C a (a + 1 + k)).map fun k => ((a : Int), ((a + 1 + k : Nat) : Int))
noncomputable def allPairs (C : Nat → Nat → Bool) (i : Nat) : List (Int × Int) := (List.range i).flatMap fun a => pairs2 C a (4 - a)
section
variable {w : World} {B : Heap} {L : Addr} {m cm : PySem.Str → Option Value} {cl : List (PySem.Str × Addr)} {news rest : List (Addr × Obj)} {s₀ s : Shared} {A : Around} {n : Nat}
theorem law_6 {Q : Flow → Shared → Prop} {x y : PySem.Str} {t u : Tok} (R : Room (n + 70) A) (F : Fm w B L (envLaw L).cells s₀ m cm rest s)
  (m1 : m "forth" = some (.str x t)) (m2 : m "back" = some (.str y u)) (hx : StripOk x) (hx2 : (stripF x).cps.all (· < 128) = true) (hx3 : checkF x = true) (hy : StripOk y) (hy2 : (stripF y).cps.all (· < 128) = true) (hy3 : checkF y = true)
  (h : ∀ s', Fm w B L (envLaw L).cells s₀ m cm rest s' → Q .next s') :
  wpAny (M w) A (exec (lawSt 6) (envLaw L)) Q NoE s := by
 obtain ⟨h₁, g₁, d₁, k₁, o₁⟩ := s
 ktn_no "ast"
 ktn_no "z"
 refine zcm (n := n) (R.less (by ktn_no "le")) (F.toks _) hx hx2 fun s' F₂ => ?_
 rw [hx3]
 obtain ⟨h₂, g₂, d₂, k₂, o₂⟩ := s'
 clear F
 ktn_no "z"
 refine wpAny_isNot_self rfl ?_
 refine wpAny_truthy_bool ?_
 (ktn_no "iN"; exact Bool.false_ne_true)
 ktn_no "z"
 refine zcm (n := n) (R.less (by ktn_no "le")) (F₂.toks _) hy hy2 fun s' F₃ => ?_
 rw [hy3]
 obtain ⟨h₃, g₃, d₃, k₃, o₃⟩ := s'
 clear F₂
 ktn_no "z"
 refine wpAny_isNot_self rfl ?_
 refine wpAny_truthy_bool ?_
 (ktn_no "iN"; exact Bool.false_ne_true)
 ktn_no "z"
 (ktn_no "iN"; exact Bool.false_ne_true)
 ktn_no "z"
 exact h _ F₃
theorem law_7 {Q : Flow → Shared → Prop} {W : Addr} {ws : List (PySem.Str × Tok)} {k : Nat} {x : PySem.Str} {tx : Tok} (R : Room (n + 70) A) (F : Fm w B L (envLaw L).cells s₀ m cm rest s) (HC : OwnC B (envLaw L).cells) (hW : (W, lsO (strValues ws) k) ∈ rest) (hl : ws.length ≤ 1000) (hw : ∀ y ∈ ws, y.1.length ≤ 1000) (m1 : m "words" = some (.ref W)) (m2 : m "forth" = some (.str x tx)) (hx : DotsFine x)
  (h : ∀ D ds kd S ss k' s', ds.map (·.1) = dotsF x → ss.map (·.1) = ws.map (fun y => (y.1.length : Int)) → Fm w B L (envLaw L).cells s₀ (upd m "dots" (.ref D)) (upd cm "sizes" (.ref S)) ((S, lsO (inV ss) k') :: (D, lsO (inV ds) kd) :: rest) s' → Q .next s') :
  wpAny (M w) A (exec (lawSt 7) (envLaw L)) Q NoE s := by
 obtain ⟨h₁, g₁, d₁, k₁, o₁⟩ := s
 ktn_no "ast"
 refine Assign_Tuple ?_ (by kernel_rfl) (by kernel_rfl)
 refine Tuple_ ?_
 refine zaG ?_ (by kernel_rfl)
 ktn_no "z"
 refine zdr (n := n + 5) (R.less (by ktn_no "le")) (F.toks _) hx fun Dd ds kdd s' hds F₀ => ?_
 obtain ⟨h₂, g₂, d₂, k₂, o₂⟩ := s'
 clear F
 ktn_no "z"
 refine zaM (B := B) (L := L) (m := m) (cm := cm) (s₀ := s₀) (by kernel_rfl) (by rfl) (by kernel_rfl) (by kernel_rfl) (by kernel_rfl) (fun _ => rfl) ?_
 ktn_no "z"
 replace hW : (W, lsO (strValues ws) k) ∈ (Dd, lsO (inV ds) kdd) :: rest := .tail _ hW
 obtain ⟨jW, hjW⟩ := List.getElem?_of_mem hW
 refine zak F₀ hjW fun I h₄ F₃ => ?_
 refine ⟨_, F₃, fun D C s₃ s₄ _ F₄ G => ?_⟩
 have G₁ := G.perm (news' := (I, itO W 0) :: (D, lsO [] 0) :: (Dd, lsO (inV ds) kdd) :: rest) (by ktn_no "perm_tac")
 clear F₀ F₃ F₄ G
 have lw : (strValues ws).length = ws.length := by simp [strValues]
 refine zas (zag I W (strValues ws)) (zaA I W) rfl rfl R.handled (by ktn_no "om") (fun j v => ∃ t, v = .int (((ws.getD j default).1.length : Nat) : Int) t) rfl G₁ (fun m l k s o F => ⟨_, _, (F.nw _ (.tail _ (.tail _ hW))).1, rfl⟩) (fun j v m0 l1 k0 o0 s0 K hj hv G₂ q => ?_) (fun m₅ ls kd s' hl' hv G₃ => ?_)
 ·obtain ⟨h, g, d, tk, os⟩ := s0
  have hjy : j < ws.length := by ktn_no "o4"
  have ev : v = .str ws[j].1 ws[j].2 := by
   have e : (strValues ws)[j]? = some (.str ws[j].1 ws[j].2) := by simp [strValues, List.getElem?_eq_getElem hjy]
   exact Option.some.inj (hv.symm.trans e)
  subst ev
  refine wpAny_pure (wpAny_assign_Name ?_)
  refine st_L G₂ (by kernel_rfl) (by kernel_rfl!) (by kernel_rfl) fun h₆ G₃ => ?_
  clear G₁ G₂
  ktn_no "z"
  refine SBL.len (by have := hw _ (List.getElem_mem hjy); ktn_no "o4") ?_
  exact q _ _ _ ⟨_, by rw [List.getD_eq_getElem?_getD, List.getElem?_eq_getElem hjy]; rfl⟩ (G₃.toks _)
 ·refine ⟨_, _, _, _, G₃, fun s'' F₇ => ?_⟩
  obtain ⟨h₇, g₇, d₇, k₇, o₇⟩ := s''
  clear G₁ G₃
  (refine x1_2 (zbW ls (fun j => (((ws.getD j default).1.length : Nat) : Int)) hv) ?_; intro os eqX1 hos; subst eqX1)
  ktn_no "z"
  refine zca (F₇.toks 0) (by simp) fun T h₈ F₈ => ?_
  clear F₇
  refine zc8 F₈ HC R.handled (F₈.at 0 rfl) (by kernel_rfl) (by kernel_rfl) (by kernel_rfl) (by kernel_rfl) (by kernel_rfl) (by kernel_rfl) fun h₉ k₉ F₉ => ?_
  refine h Dd ds kdd D os kd _ hds ?_ (F₉.drop 1)
  rw [hos, hl', lw]
  exact zau ws fun y => (y.1.length : Int)
theorem law_8 {Q : Flow → Shared → Prop} {S : Addr} {ss : List (Int × Tok)} {k1 : Nat} {W : Int} {tW : Tok} {C : Nat → Nat → Bool} (R : Room (n + 70) A) (F : Fm w B L (envLaw L).cells s₀ m cm rest s) (HC : OwnC B (envLaw L).cells)
  (hS : (S, lsO (inV ss) k1) ∈ rest) (l6 : ss.length = 5) (hC : ∀ a b, a < b → b < 5 → decide ((((ss.map (·.1)).drop a).take (b + 1 - a)).sum ≤ W) = C a b)
  (c1 : cm "sizes" = some (.ref S)) (c3 : cm "width" = some (.int W tW))
  (h : ∀ D vs l k s', PrsIn (allPairs C 5) vs l → Fm w B L (envLaw L).cells s₀ (upd m "shares" (.ref D)) cm ((D, lsO vs k) :: (l ++ rest)) s' → Q .next s') :
  wpAny (M w) A (exec (lawSt 8) (envLaw L)) Q NoE s := by
 obtain ⟨h₁, g₁, d₁, k₁, o₁⟩ := s
 ktn_no "ast"
 refine zaw (B := B) (L := L) (m := m) (cm := cm) (s₀ := s₀) (by kernel_rfl) (by kernel_rfl) (by rfl) (by kernel_rfl) (by kernel_rfl) (by kernel_rfl) (fun _ => rfl) (by kernel_rfl) (by kernel_rfl) (by kernel_rfl) ?_
 ktn_no "z"
 refine range1 F fun r h₄ t' u' v' k₄ F₄ => ?_
 refine zat F₄ (by decide) fun I o h₅ ho F₅ => ?_
 clear F F₄
 refine ⟨_, F₅, fun D C' s₃ s₄ _ F₆ G => ?_⟩
 have G₁ := G.perm (news' := (I, o) :: (D, lsO [] 0) :: rest) (by ktn_no "perm_tac")
 clear F₅ F₆ G
 refine zcC (zaf I 0 1 5) (za8 I 0 1 5) rfl rfl (fun _ => rfl) R.handled (l := []) (vs := []) (fun l vs k => (D, lsO vs k) :: (l ++ rest)) (fun i _ l vs => PrsIn (allPairs C i) vs l ∧ vs.length ≤ 5 * i) (fun _ _ _ _ _ _ _ _ _ => trivial) ho ⟨⟨rfl, fun j y e => by simp [allPairs] at e⟩, Nat.le_refl _⟩ G₁ ?_ ?_
 ·intro i v m₁ o₁ s₅ K l vs k hi hv z G₂ q
  obtain ⟨hP, hvl⟩ := z
  obtain ⟨ti, hv⟩ := rg0 hv
  subst hv
  obtain ⟨h₅', g₅, d₅, k₅, o₅⟩ := s₅
  refine wpAny_pure (wpAny_assign_Name ?_)
  refine st_L G₂ (by kernel_rfl) (by kernel_rfl!) (by kernel_rfl) fun h₆ G₃ => ?_
  have n1 : upd m₁ "one" (.int i ti) "one" = some (.int i ti) := rfl
  revert n1 G₃
  generalize upd m₁ "one" (.int i ti) = m₆
  intro G₃ n1
  clear G₁ G₂
  refine wpAny_tests_nil ?_
  (ktn_no "iP"; exact rfl)
  ktn_no "z"
  have hi6 : i < 5 := hi
  have e5 : i + 1 + (4 - i) = 5 := (Nat.add_right_comm i 1 (4 - i)).trans (congrArg Nat.succ (Nat.add_sub_cancel' (Nat.le_of_lt_succ hi6)))
  rw [show ((i : Nat) : Int) + 1 = ((i + 1 : Nat) : Int) from rfl]
  refine range2 (n := 4 - i) G₃ (congrArg Int.ofNat e5).symm fun r₂ h₇ t₂ u₂ v₂ k₇ G₄ => ?_
  refine zat G₄ (by rw [e5]; decide) fun J oJ h₈ hoJ G₅ => ?_
  clear G₃ G₄
  refine zdd (zaf J ((i + 1 : Nat) : Int) 1 (4 - i)) (za8 J ((i + 1 : Nat) : Int) 1 (4 - i)) rfl rfl R.handled (fun l vs k => (I, o₁) :: (D, lsO vs k) :: (l ++ rest)) (fun j m l vs => m "one" = some (.int i ti) ∧ PrsIn (allPairs C i ++ pairs2 C i j) vs l ∧ vs.length ≤ 5 * i + j) (fun _ _ _ _ _ _ _ _ _ => trivial) hoJ ⟨n1, by simpa [pairs2] using hP, hvl⟩ G₅ ?_ ?_
  ·intro j v m₂ o₂ s₈ K₂ l vs k hj hv z X₂ q₂
   clear hP hvl q
   obtain ⟨n2, hP, hvl⟩ := z
   have hij : i + 1 + j < 5 := Nat.lt_of_lt_of_le (Nat.add_lt_add_left hj (i + 1)) (Nat.le_of_eq e5)
   obtain ⟨tj, hv⟩ := rg1 hv
   subst hv
   obtain ⟨h₈', g₈, d₈, k₈, o₈⟩ := s₈
   refine wpAny_pure (wpAny_assign_Name ?_)
   refine st_L X₂ (by kernel_rfl) (by kernel_rfl!) (by kernel_rfl) fun h₁₀ X₃ => ?_
   have n3 : upd m₂ "two" (.int (i + 1 + j : Nat) tj) "two" = some (.int (i + 1 + j : Nat) tj) := rfl
   have n4 : upd m₂ "two" (.int (i + 1 + j : Nat) tj) "one" = some (.int i ti) := n2
   revert n3 n4 X₃
   generalize upd m₂ "two" (.int (i + 1 + j : Nat) tj) = m₆'
   intro X₃ n3 n4
   clear G₅ X₂
   have mS : (S, lsO (inV ss) k1) ∈ (J, o₂) :: (I, o₁) :: (D, lsO vs k) :: (l ++ rest) := .tail _ (.tail _ (.tail _ (List.mem_append_right _ hS)))
   refine wpAny_tests_one ?_
   ktn_no "x"
   refine za7 ?_
   ktn_no "z"
   refine evalPart_some_step ?_
   ktn_no "z"
   refine evalPart_some_step ?_
   ktn_no "z"
   obtain ⟨jS, hjS⟩ := List.getElem?_of_mem mS
   rw [show ((i + 1 + j : Nat) : Int) + 1 = ((i + 1 + j + 1 : Nat) : Int) from rfl]
   refine .mk (X₃.toks _) hjS (by simp; ktn_no "o4") (.int (i : Nat) _) (.int (i + 1 + j + 1 : Nat) _) fun y h₁₂ ky X₄ => ?_
   have hz6 : (inV ss).toArray.size = 5 := by simp [l6]
   rw [slicePick_run _ i (i + 1 + j + 1) (by rw [hz6]; exact hij) (Nat.le_trans (Nat.le_succ i) (Nat.le_trans (Nat.le_add_right (i + 1) j) (Nat.le_succ _)))] at X₄
   have e0 : (((inV ss).toArray.toList.drop i).take (i + 1 + j + 1 - i)).toArray.toList = inV ((ss.drop i).take (i + 1 + j + 1 - i)) := by simp [inV]
   rw [e0] at X₄
   clear X₃
   ktn_no "z"
   refine zc3 X₄ R.handled (isL (X₄.at 0 rfl)) fun t₉ h₁₃ k₁₃ X₅ => ?_
   replace X₅ := X₅.drop 1
   simp only [List.drop_succ_cons, List.drop_zero] at X₅
   clear X₄
   ktn_no "z"
   have hc := hC i (i + 1 + j) (Nat.lt_of_lt_of_le (Nat.lt_succ_self i) (Nat.le_add_right _ _)) hij
   rw [← List.map_drop, ← List.map_take] at hc
   rw [hc]
   have hfil : ∀ b : Bool, C i (i + 1 + j) = b → pairs2 C i (j + 1) = pairs2 C i j ++ (if b = true then [((i : Int), ((i + 1 + j : Nat) : Int))] else []) := fun b hb => by
    unfold pairs2
    rw [List.range_succ, List.filter_append, List.map_append]
    congr 1
    simp only [List.filter_cons, List.filter_nil, hb]
    cases b <;> rfl
   cases hb : C i (i + 1 + j) with
   | false =>
    (ktn_no "iN"; exact Bool.false_ne_true)
    refine q₂ _ l vs k _ ⟨n4, ?_, Nat.le_succ_of_le hvl⟩ X₅
    rw [hfil _ hb, if_neg Bool.false_ne_true, List.append_nil]
    exact hP
   | true =>
    (ktn_no "iP"; exact rfl)
    ktn_no "z"
    refine zca X₅ (by simp) fun T h₁₄ X₈ => ?_
    clear X₅
    refine app_at 3 X₈ rfl (Nat.le_trans hvl (Nat.le_trans (Nat.add_le_add (Nat.mul_le_mul_left 5 (Nat.le_of_lt hi6)) (Nat.le_of_lt (Nat.lt_of_le_of_lt (Nat.le_add_left j (i + 1)) hij))) (by decide))) fun h₁₅ X₉ => ?_
    dsimp only [List.set] at X₉
    refine q₂ _ ((T, tupO [.int i ti, .int (i + 1 + j : Nat) tj]) :: l) (vs ++ [.ref T]) (k + 1) _ ⟨n4, ?_, by rw [List.length_append]; exact Nat.succ_le_succ hvl⟩ (X₉.perm (by ktn_no "perm_tac"))
    rw [hfil _ hb, if_pos rfl, ← List.append_assoc]
    exact hP.snoc (y := ((i : Int), ((i + 1 + j : Nat) : Int)))
  ·intro m₂ l vs k s₈ z X₂
   obtain ⟨n2, hP, hvl⟩ := z
   refine q _ l vs k _ ⟨?_, Nat.le_trans hvl (Nat.add_le_add_left (Nat.le_trans (Nat.sub_le 4 i) (by decide)) (5 * i))⟩ X₂
   have e : allPairs C (i + 1) = allPairs C i ++ pairs2 C i (4 - i) := by
    unfold allPairs
    rw [List.range_succ, List.flatMap_append]
    simp
   rw [e]
   exact hP
 ·intro m₁ l vs k s₅ z G₂
  obtain ⟨hP, hvl⟩ := z
  refine ⟨_, _, _, _, G₂, fun s'' F₇ => ?_⟩
  exact h D vs l k _ hP F₇
end
noncomputable def waysGo (ws : List Int) (d : Nat) : List Int := (List.range (ws.length + d - 1)).map fun p => ((ws.drop (min (p + 1 - d) ws.length)).take (min (p + 1) ws.length - min (p + 1 - d) ws.length)).sum
noncomputable def waysF (ds : List Nat) : List Int := ds.foldl waysGo [1]
theorem zfw (ws : List Int) (d : Nat) : (waysGo ws d).length = ws.length + d - 1 := by simp [waysGo]
theorem zfY : ∀ (ds : List Nat) (ws : List Int), (∀ d ∈ ds, 1 ≤ d ∧ d ≤ 100) → 1 ≤ ws.length → 1 ≤ (ds.foldl waysGo ws).length ∧ (ds.foldl waysGo ws).length ≤ ws.length + 100 * ds.length := by
 intro ds
 induction ds with
 | nil =>
  intro ws _ h
  exact ⟨h, by simp⟩
 | cons d ds ih =>
  intro ws hd h
  obtain ⟨h1, h2⟩ := hd d (.head _)
  have hl := zfw ws d
  obtain ⟨a, b⟩ := ih (waysGo ws d) (fun e he => hd e (.tail _ he)) (by rw [hl]; exact Nat.le_sub_of_add_le (Nat.add_le_add h h1))
  rw [List.foldl_cons, List.length_cons]
  have hl2 : (waysGo ws d).length ≤ ws.length + 100 := by rw [hl]; exact Nat.le_trans (Nat.sub_le _ _) (Nat.add_le_add_left h2 _)
  exact ⟨a, Nat.le_trans b (Nat.le_trans (Nat.add_le_add_right hl2 _) (Nat.le_of_eq (by rw [Nat.add_assoc, Nat.mul_add_one, Nat.add_comm (100 * ds.length)])))⟩
noncomputable abbrev l10 : Stmt := lawSt 10
noncomputable abbrev l10T : Expr := (forParts l10).1
noncomputable abbrev l10B : List Stmt := (forParts l10).2.2.1
section
variable {w : World} {B : Heap} {L I : Addr} {m cm : PySem.Str → Option Value} {cl : List (PySem.Str × Addr)} {news rest : List (Addr × Obj)} {s₀ s : Shared} {A : Around} {n : Nat} {m0 cm0 : PySem.Str → Option Value}
theorem max2 {h : Heap} {g : Array GenState} {d d₀ : Drawn} {tk tk₀ : Nat} {os : OsState} {a b : Int} {t u : Tok} {Q : Value → Shared → Prop} {E : Value → Shared → Prop} (F : Fm w B L cl s₀ m cm news ⟨h, g, d₀, tk₀, os⟩) (hh : A.handled = none)
  (q : ∀ t' h' tk', Fm w B L cl s₀ m cm news ⟨h', g, d, tk', os⟩ → Q (.int (max a b) t') ⟨h', g, d, tk', os⟩) : wpAny (M w) A (call (.builtin "max") [.int a t, .int b u]) Q E ⟨h, g, d, tk, os⟩ := by
 refine max_two_ints (s := ⟨h, g, d, tk, os⟩) hh fun h' tk' hk => ?_
 have F' : Fm w B L cl s₀ m cm news ⟨h', g, d, tk', os⟩ := F.keepAll hk
 split
 ·have := q u h' tk' F'
  rwa [show max a b = b from Int.max_eq_right (Int.le_of_lt (by assumption))] at this
 ·have := q t h' tk' F'
  rwa [show max a b = a from Int.max_eq_left (Int.not_lt.mp (by assumption))] at this
theorem zgi {Q : Flow → Shared → Prop} {V : Addr} {ys : List (Int × Tok)} {kk d : Nat} {td : Tok} (R : Room (n + 20) A) (F : Fm w B L (envLaw L).cells s₀ m cm ((V, lsO (inV ys) kk) :: rest) s) (HC : OwnC B (envLaw L).cells)
  (hd : 1 ≤ d ∧ d ≤ 100) (hy : 1 ≤ ys.length ∧ ys.length ≤ 10000) (c1 : cm "ways" = some (.ref V)) (c2 : cm "size" = some (.int (d : Nat) td))
  (h : ∀ V' ys' k' s', ys'.map (·.1) = waysGo (ys.map (·.1)) d → Fm w B L (envLaw L).cells s₀ m (upd cm "ways" (.ref V')) ((V', lsO (inV ys') k') :: rest) s' → Q .next s') :
  wpAny (M w) A (exec (l10B.getD 0 default) (envLaw L)) Q NoE s := by
 obtain ⟨h₁, g₁, d₁, k₁, o₁⟩ := s
 ktn_no "ast"
 ktn_no "z"
 refine zaM (B := B) (L := L) (m := m) (cm := cm) (s₀ := s₀) (by kernel_rfl) (by rfl) (by kernel_rfl) (by kernel_rfl) (by kernel_rfl) (fun _ => rfl) ?_
 ktn_no "z"
 refine PyProof.Rows.len_list (isL (F.at 0 rfl)) (by simp; exact Int.lt_of_le_of_lt (Int.ofNat_le.mpr hy.2) (by decide)) ?_
 ktn_no "z"
 have hsz : ((inV ys).toArray.size : Nat) = ys.length := by simp
 rw [hsz, show ((ys.length : Nat) : Int) + ((d : Nat) : Int) - 1 = ((ys.length + d - 1 : Nat) : Int) from (Int.ofNat_sub (m := 1) (n := ys.length + d) (Nat.le_trans hy.1 (Nat.le_add_right _ _))).symm]
 refine range1 (F.toks 0) fun r h₄ t' u' v' k₄ F₄ => ?_
 have hL : ys.length + d - 1 ≤ 100000 := Nat.le_trans (Nat.sub_le _ _) (Nat.le_trans (Nat.add_le_add hy.2 hd.2) (by decide))
 refine zat F₄ (by rw [Nat.zero_add]; exact hL) fun I o h₅ ho F₅ => ?_
 clear F F₄
 refine ⟨_, F₅, fun D C s₃ s₄ _ F₆ G => ?_⟩
 have G₁ := G.perm (news' := (I, o) :: (D, lsO [] 0) :: (V, lsO (inV ys) kk) :: rest) (by ktn_no "perm_tac")
 clear F₅ F₆ G
 refine zas (zaf I 0 1 (ys.length + d - 1)) (za8 I 0 1 (ys.length + d - 1)) rfl rfl R.handled hL (fun p v => ∃ t, v = .int ((((ys.map (·.1)).drop (min (p + 1 - d) ys.length)).take (min (p + 1) ys.length - min (p + 1 - d) ys.length)).sum) t) ho G₁ (fun _ _ _ _ _ _ => trivial) (fun j v m0 l1 k0 o0 s0 K hj hv G₂ q => ?_) (fun m₅ ls kd s' hl' hv G₃ => ?_)
 ·obtain ⟨h, g, dd, tk, os⟩ := s0
  obtain ⟨tj, rfl⟩ := hv
  rw [show (0 : Int) + (j : Int) * 1 = (j : Int) from by rw [Int.zero_add, Int.mul_one]]
  refine wpAny_pure (wpAny_assign_Name ?_)
  refine st_L G₂ (by kernel_rfl) (by kernel_rfl!) (by kernel_rfl) fun h₆ G₃ => ?_
  have n1 : upd m0 "spot" (.int j tj) "spot" = some (.int j tj) := rfl
  revert n1 G₃
  generalize upd m0 "spot" (.int j tj) = m₆
  intro G₃ n1
  clear G₁ G₂
  ktn_no "z"
  refine wpAny_Slice ?_
  refine evalPart_some_step ?_
  ktn_no "z"
  refine max2 (G₃.toks 0) R.handled fun t₇ h₇ k₇ G₄ => ?_
  rw [show max (0 : Int) ((j : Int) - (d : Int) + 1) = ((j + 1 - d : Nat) : Int) by ktn_no "o4"]
  clear G₃
  ktn_no "z"
  refine evalPart_some_step ?_
  ktn_no "z"
  refine evalPart_none_step ?_
  rw [show ((j : Nat) : Int) + 1 = ((j + 1 : Nat) : Int) from rfl]
  have G₅ := fun t => G₄.push1 (g := g) (d := dd) (tk := k₇) (slO (.int (j + 1 - d : Nat) t₇) (.int (j + 1 : Nat) t) .none)
  refine zbd (G₅ _) ((G₅ _).at 3 rfl) ((G₅ _).at 0 rfl) (.int _ _) (.int _ _) (by simp; exact Nat.le_trans hy.2 (by decide)) fun y h₈ ky G₆ => ?_
  rw [slicePick_plain] at G₆
  simp only [Option.elim, clipAt_nat] at G₆
  have hzy : (inV ys).toArray.size = ys.length := by simp
  rw [hzy] at G₆
  have e0 : ((inV ys).drop (min (j + 1 - d) ys.length)).take (min (j + 1) ys.length - min (j + 1 - d) ys.length) = inV ((ys.drop (min (j + 1 - d) ys.length)).take (min (j + 1) ys.length - min (j + 1 - d) ys.length)) := by simp [inV]
  rw [e0] at G₆
  clear G₄ G₅
  ktn_no "z"
  refine zc3 G₆ R.handled (isL (G₆.at 0 rfl)) fun t₉ h₉ k₉ G₇ => ?_
  replace G₇ := G₇.drop 2
  dsimp only [List.drop] at G₇
  refine q _ _ _ ⟨t₉, ?_⟩ G₇
  rw [List.map_take, List.map_drop]
 ·refine ⟨_, _, _, _, G₃, fun s'' F₇ => ?_⟩
  obtain ⟨h₇, g₇, d₇, k₇, o₇⟩ := s''
  clear G₁ G₃
  (refine x1_2 (zbW ls _ hv) ?_; intro zs eqX1 hz; subst eqX1)
  ktn_no "z"
  rename_i h₈ F₈
  refine h D zs kd _ ?_ (F₈.sub ((List.sublist_cons_self _ _).cons₂ _))
  rw [hz, hl']
  unfold waysGo
  rw [List.length_map]
theorem zgw {Q : Flow → Shared → Prop} {Dd : Addr} {ds : List (Int × Tok)} {dn : List Nat} {kd : Nat} (R : Room (n + 30) A) (HC : OwnC B (envLaw L).cells) (hdn : ds.map (·.1) = dn.map fun d : Nat => (d : Int)) (hds : ∀ d ∈ dn, 1 ≤ d ∧ d ≤ 100) (hdl : dn.length ≤ 50) (hD : (Dd, lsO (inV ds) kd) ∈ rest) :
  ∀ (k i : Nat) (m cm : PySem.Str → Option Value) (V : Addr) (ys : List (Int × Tok)) (kk : Nat) (o : Obj) (s : Shared),
   i + k = dn.length → o = itO Dd i → ys.map (·.1) = waysF (dn.take i) → Fm w B L (envLaw L).cells s₀ m cm ((I, o) :: (V, lsO (inV ys) kk) :: rest) s → cm "ways" = some (.ref V) → (∀ x : PySem.Str, x ≠ "ways" → x ≠ "size" → cm x = cm0 x) → (∀ x, m x = m0 x) →
   (∀ m' cm' V ys kk s', ys.map (·.1) = waysF dn → cm' "ways" = some (.ref V) → (∀ x : PySem.Str, x ≠ "ways" → x ≠ "size" → cm' x = cm0 x) → (∀ x, m' x = m0 x) → Fm w B L (envLaw L).cells s₀ m' cm' ((V, lsO (inV ys) kk) :: rest) s' → Q .next s') →
   LoopC w A l10T (.ref I) l10B [] (envLaw L) Q s := by
 intro k
 induction k with
 | zero =>
  intro i m cm V ys kk o s hi ho hy F c1 hc hm hq
  refine zab ?_
  have S := zag (w := w) I Dd (inV ds)
  have hsd := (F.nw _ (.tail _ (.tail _ hD))).1
  have hl : ds.length = dn.length := by have := congrArg List.length hdn; simpa using this
  obtain ⟨h, g, dd, tk, os⟩ := s
  refine F.endI S R.handled (by simp; exact hi.trans hl.symm) ho ⟨_, _, hsd, rfl⟩ fun h' tk' F' => ?_
  dsimp only
  rw [List.take_of_length_le (l := dn) (i := i) (Nat.le_of_eq hi.symm)] at hy
  exact wpAny_execs_nil (hq m cm V ys kk _ hy c1 hc hm F')
 | succ k ih =>
  intro i m cm V ys kk o s hi ho hy F c1 hc hm hq
  refine zab ?_
  have S := zag (w := w) I Dd (inV ds)
  have hsd := (F.nw _ (.tail _ (.tail _ hD))).1
  have hl : ds.length = dn.length := by have := congrArg List.length hdn; simpa using this
  obtain ⟨h, g, dd, tk, os⟩ := s
  have hlt' : i < dn.length := Nat.lt_of_lt_of_le (Nat.lt_add_of_pos_right (Nat.succ_pos k)) (Nat.le_of_eq hi)
  have hlt : i < ds.length := by rw [hl]; exact hlt'
  refine F.nextI (d := dd) S (by simp; exact hlt) ho ⟨_, _, hsd, rfl⟩ fun v h₁ k₁ o₁ hv ho₁ F₁ => ?_
  have hv' : v = .int ds[i].1 ds[i].2 := by
   simp only [inV, List.getElem?_map, List.getElem?_eq_getElem hlt] at hv
   exact (Option.some.inj hv).symm
  have hdi : ds[i].1 = (dn[i] : Nat) := by
   have := congrArg (fun l : List Int => l[i]?) hdn
   simpa [List.getElem?_eq_getElem hlt, List.getElem?_eq_getElem hlt'] using this
  rw [hdi] at hv'
  subst hv'
  clear hv hsd F
  dsimp only
  refine wpAny_pure (wpAny_assign_Name ?_)
  refine st_CO F₁ HC (by kernel_rfl) (by kernel_rfl!) (by kernel_rfl) (by kernel_rfl) fun h₂ F₂ => ?_
  clear F₁
  have c2 : upd cm "size" (.int (dn[i] : Nat) ds[i].2) "ways" = some (.ref V) := c1
  have c3 : upd cm "size" (.int (dn[i] : Nat) ds[i].2) "size" = some (.int (dn[i] : Nat) ds[i].2) := rfl
  have hc2 : ∀ x : PySem.Str, x ≠ "ways" → x ≠ "size" → upd cm "size" (.int (dn[i] : Nat) ds[i].2) x = cm0 x := fun x h1 h2 => (if_neg h2).trans (hc x h1 h2)
  revert c2 c3 hc2 F₂
  generalize upd cm "size" (.int (dn[i] : Nat) ds[i].2) = cm₂
  intro F₂ c2 c3 hc2
  have F₃ := F₂.perm (news' := (V, lsO (inV ys) kk) :: ((I, o₁) :: rest)) (by ktn_no "perm_tac")
  clear F₂
  have hyl := congrArg List.length hy
  rw [List.length_map] at hyl
  have hwl := zfY (dn.take i) [1] (fun d hd => hds d (List.mem_of_mem_take hd)) (by simp)
  have hwl2 : (dn.take i).length ≤ 50 := Nat.le_trans (List.length_take_le' _ _) hdl
  refine wpAny_execs_cons ?_
  refine zgi (n := n) (R.less (by ktn_no "le")) (F₃.toks _) HC (hds _ (List.getElem_mem hlt')) (by rw [hyl]; exact ⟨hwl.1, Nat.le_trans hwl.2 (Nat.le_trans (Nat.add_le_add_left (Nat.mul_le_mul_left 100 hwl2) 1) (by decide))⟩) c2 c3 fun V' ys' k' s' hy' F₄ => ?_
  clear F₃
  dsimp only
  refine wpAny_execs_nil ?_
  refine ih (i + 1) _ _ V' ys' k' o₁ _ ((Nat.succ_add_eq_add_succ i k).trans hi) ho₁ ?_ (F₄.perm (by ktn_no "perm_tac")) rfl (fun x h1 h2 => (if_neg h1).trans (hc2 x h1 h2)) hm hq
  rw [hy', hy, List.take_succ_eq_append_getElem hlt']
  unfold waysF
  rw [List.foldl_append]
  rfl
end
section
variable {w : World} {B : Heap} {L I : Addr} {m cm : PySem.Str → Option Value} {cl : List (PySem.Str × Addr)} {news rest : List (Addr × Obj)} {s₀ s : Shared} {A : Around} {n : Nat}
theorem law_9 {Q : Flow → Shared → Prop} (R : Room (n + 20) A) (F : Fm w B L (envLaw L).cells s₀ m cm rest s) (HC : OwnC B (envLaw L).cells)
  (h : ∀ V ys k s', ys.map (·.1) = waysF [] → Fm w B L (envLaw L).cells s₀ m (upd cm "ways" (.ref V)) ((V, lsO (inV ys) k) :: rest) s' → Q .next s') :
  wpAny (M w) A (exec (lawSt 9) (envLaw L)) Q NoE s := by
 obtain ⟨h₁, g₁, d₁, k₁, o₁⟩ := s
 ktn_no "ast"
 ktn_no "z"
 refine za4 (vs := inV [(1, k₁)]) (F.toks 0) (by simp) fun V h₂ F₂ => ?_
 ktn_no "z"
 rename_i h₃ F₃
 exact h V [(1, k₁)] 0 _ rfl F₃
theorem law_10 {Q : Flow → Shared → Prop} {Dd V : Addr} {ds ys : List (Int × Tok)} {dn : List Nat} {kd kV : Nat} (R : Room (n + 30) A) (F : Fm w B L (envLaw L).cells s₀ m cm ((V, lsO (inV ys) kV) :: rest) s) (HC : OwnC B (envLaw L).cells) (hdn : ds.map (·.1) = dn.map fun d : Nat => (d : Int)) (hds : ∀ d ∈ dn, 1 ≤ d ∧ d ≤ 100) (hdl : dn.length ≤ 50) (hD : (Dd, lsO (inV ds) kd) ∈ rest)
  (hy : ys.map (·.1) = waysF []) (m1 : m "dots" = some (.ref Dd)) (c1 : cm "ways" = some (.ref V))
  (h : ∀ m' cm' V ys kk s', ys.map (·.1) = waysF dn → cm' "ways" = some (.ref V) → (∀ x : PySem.Str, x ≠ "ways" → x ≠ "size" → cm' x = cm x) → (∀ x, m' x = m x) → Fm w B L (envLaw L).cells s₀ m' cm' ((V, lsO (inV ys) kk) :: rest) s' → Q .next s') :
  wpAny (M w) A (exec (lawSt 10) (envLaw L)) Q NoE s := by
 obtain ⟨h₁, g₁, d₁, k₁, o₁⟩ := s
 ktn_no "ast"
 refine wFor ?_ (fun x => rfl)
 ktn_no "z"
 obtain ⟨jD, hjD⟩ := List.getElem?_of_mem (show (Dd, lsO (inV ds) kd) ∈ (V, lsO (inV ys) kV) :: rest from .tail _ hD)
 refine zak F hjD fun I h₄ F₃ => ?_
 clear F
 exact zgw (n := n) (m0 := m) (cm0 := cm) R HC hdn hds hdl hD dn.length 0 m cm V ys kV _ _ (by ktn_no "om") rfl hy F₃ c1 (fun _ _ _ => rfl) (fun _ => rfl) fun m' cm' V ys kk s' a b c d e => h m' cm' V ys kk s' a b c d e
theorem law_11 {Q : Flow → Shared → Prop} {V Dd sa : Addr} {ds ys : List (Int × Tok)} {kd kV kS : Nat} {y : PySem.Str} {ty : Tok} {vS : List Value} {lS : List (Addr × Obj)} {ps : List (Nat × Nat)} (R : Room (n + 70) A) (F : Fm w B L (envLaw L).cells s₀ m cm rest s)
  (hV : (V, lsO (inV ys) kV) ∈ rest) (hD : (Dd, lsO (inV ds) kd) ∈ rest) (hP : PrsIn (natP ps) vS lS) (hp1 : ps.length ≤ 10) (hp2 : ∀ q ∈ ps, q.1 < 5 ∧ q.2 < 5) (hS : (sa, lsO vS kS) ∈ rest) (hl : ∀ p ∈ lS, p ∈ rest) (hc : ∀ o, ∃ j : Nat, cntB (kindS ps o) = (j : Nat) ∧ j < ps.length + 1)
  (hw : ys.map (·.1) = kindsF ps) (hx : DotsFine y) (hdl : ds.length ≤ 50) (hpm : (ds.map (·.1)).Perm (dotsF y))
  (m1 : m "dots" = some (.ref Dd)) (m2 : m "back" = some (.str y ty)) (m3 : m "shares" = some (.ref sa)) (c1 : cm "ways" = some (.ref V))
  (h : ∀ rest' s', Fm w B L (envLaw L).cells s₀ m cm rest' s' → Q (.ret (.bool true)) s') :
  wpAny (M w) A (exec (lawSt 11) (envLaw L)) Q NoE s := by
 obtain ⟨h₁, g₁, d₁, k₁, o₁⟩ := s
 ktn_no "ast"
 ktn_no "z"
 refine zfz (n := n) (R.less (by ktn_no "le")) (F.toks _) hP hp1 hp2 hS hl hc fun K zs kz s' hz F₂ => ?_
 obtain ⟨h₂, g₂, d₂, k₂, o₂⟩ := s'
 clear F
 refine eq_intsK (isL (F₂.nw _ (.tail _ hV)).1) (zaE ys) (isL (F₂.at 0 rfl)) (zaE zs) (Nat.lt_of_le_of_lt (Nat.add_le_add_right (Nat.le_trans (Nat.le_add_right _ _) R.units) 64) (by decide)) ?_
 rw [decide_eq_true (show ys.map (·.1) = zs.map (·.1) by rw [hw, hz])]
 refine wpAny_truthy_bool ?_
 (ktn_no "iP"; exact rfl)
 ktn_no "z"
 refine zb0 F₂ (isL (F₂.nw _ (.tail _ hD)).1) (by ktn_no "om") fun S₁ h₃ as ka hp1' hs1 F₃ => ?_
 clear F₂
 ktn_no "z"
 refine zdr (n := n) (R.less (by ktn_no "le")) (F₃.toks _) hx fun D₂ es ke s' he F₄ => ?_
 obtain ⟨h₄, g₄, d₄, k₄, o₄⟩ := s'
 clear F₃
 ktn_no "z"
 have hel : es.length ≤ 50 := by
  have h1 := congrArg List.length he
  have h2 := hpm.length_eq
  rw [List.length_map] at h1 h2
  ktn_no "o4"
 refine zb0 F₄ (isL (F₄.at 0 rfl)) (by ktn_no "om") fun S₂ h₅ bs kb hp2' hs2 F₅ => ?_
 clear F₄
 ktn_no "z"
 refine eq_intsK (isL (F₅.at 2 rfl)) (zaE as) (isL (F₅.at 0 rfl)) (zaE bs) (Nat.lt_of_le_of_lt (Nat.add_le_add_right (Nat.le_trans (Nat.le_add_right _ _) R.units) 64) (by decide)) ?_
 have hab : as.map (·.1) = bs.map (·.1) := zc9 (hp1'.trans (hpm.trans (he ▸ hp2'.symm))) hs1 hs2
 rw [decide_eq_true hab]
 ktn_no "z"
 exact h _ _ (F₅.toks _)
end
open PySem.Builtin.Str in
theorem zbz (x : PySem.Str) (a b : Nat) (hb : b ≤ x.length) (hn : ∀ k, a ≤ k → k < b → ¬ StrLaws.At x ⟨#[13, 10]⟩ x.length k) : ∀ u v, (strSub x a b).cps.toList ≠ u ++ 13 :: 10 :: v := by
 intro u v e
 rw [StrLaws.strSub_toList] at e
 have hl := congrArg List.length e
 simp only [List.length_take, List.length_drop, List.length_append, List.length_cons] at hl
 have hu : u.length + 2 ≤ b - a := Nat.le_trans (Nat.le_trans (Nat.add_le_add_left (Nat.succ_le_succ (Nat.succ_le_succ (Nat.zero_le _))) _) (Nat.le_of_eq hl.symm)) (Nat.min_le_left _ _)
 have hab : a + (u.length + 2) ≤ b := Nat.add_le_of_le_sub' (Nat.le_of_lt (Nat.lt_of_sub_pos (Nat.lt_of_lt_of_le (Nat.succ_pos _) hu))) hu
 have h1 := congrArg (List.drop u.length) e
 rw [List.drop_take, List.drop_drop] at h1
 simp only [List.drop_left] at h1
 have h2 : (x.cps.toList.drop (a + u.length)).take 2 = [13, 10] := by
  have h3 := congrArg (List.take 2) h1
  rw [List.take_take] at h3
  have : min 2 (b - a - u.length) = 2 := Nat.min_eq_left (Nat.le_sub_of_add_le (by rw [Nat.add_comm]; exact hu))
  rw [this] at h3
  exact h3
 refine hn (a + u.length) (Nat.le_add_right _ _) (Nat.le_of_succ_le hab) ⟨?_, ?_⟩
 ·exact Nat.le_trans hab hb
 ·rw [StrLaws.subAt_eq]
  show ((x.cps.toList.drop (a + u.length)).take 2 == [13, 10]) = true
  rw [h2]; rfl
theorem zee (x : PySem.Str) : ∀ (cuts : List Nat) (a f : Nat), StrLaws.ChainG x ⟨#[13, 10]⟩ x.length a cuts f → (∀ k, f ≤ k → ¬ StrLaws.At x ⟨#[13, 10]⟩ x.length k) → ∀ p ∈ StrLaws.partsFrom x (⟨#[13, 10]⟩ : PySem.Str).length a cuts, ∀ u v, p.cps.toList ≠ u ++ 13 :: 10 :: v := by
 intro cuts
 induction cuts with
 | nil =>
  intro a f h hn p hp
  have e : f = a := h
  subst e
  rw [List.mem_singleton.mp hp]
  exact zbz x f x.length (Nat.le_refl _) fun k h1 _ => hn k h1
 | cons d r ih =>
  intro a f h hn p hp
  rcases List.mem_cons.mp hp with rfl | hp'
  ·exact zbz x a d (by have := h.2.1.1; ktn_no "o4") h.2.2.1
  ·exact ih _ f h.2.2.2 hn p hp'
theorem zes (x : PySem.Str) : ∀ p ∈ Txt.split x ⟨#[13, 10]⟩, ∀ u v, p.cps.toList ≠ u ++ 13 :: 10 :: v := by
 (refine x1_2 (StrLaws.occ_tight x ⟨#[13, 10]⟩ (by decide)) ?_; intro f hG hn)
 unfold Txt.split
 split
 ·rename_i hc
  intro p hp
  rw [List.mem_singleton.mp hp]
  intro u v e
  have hl := congrArg List.length e
  simp only [List.length_append, List.length_cons] at hl
  have hx : x.cps.toList.length = x.length := by simp; rfl
  rw [Bool.or_eq_true, decide_eq_true_eq, decide_eq_true_eq] at hc
  rcases hc with h | h
  ·have : (⟨#[13, 10]⟩ : PySem.Str).length = 2 := rfl
   ktn_no "o4"
  ·exfalso
   have h1 : PySem.Builtin.Str.strKind (⟨#[13, 10]⟩ : PySem.Str) = 1 := by decide +kernel
   rw [h1] at h
   unfold PySem.Builtin.Str.strKind at h
   split at h
   ·ktn_no "o4"
   ·split at h <;> ktn_no "o4"
 ·split
  ·rename_i he
   intro p hp
   rw [List.mem_singleton.mp hp]
   have e0 := List.isEmpty_iff.mp he
   rw [e0] at hG
   have ef : f = 0 := hG
   subst ef
   rw [← StrLaws.sub_whole x]
   exact zbz x 0 x.length (Nat.le_refl _) fun k h1 _ => hn k h1
  ·rw [StrLaws.partsBetween_eq]
   exact zee x _ 0 f hG hn
theorem zgh {x y : List Nat} : ∀ {a b : List Nat}, (∀ u v, a ≠ u ++ 13 :: 10 :: v) → 13 ∉ b → a ++ 13 :: 10 :: x = b ++ 13 :: 10 :: y → a = b ∧ x = y := by
 intro a
 induction a with
 | nil =>
  intro b ha hb h
  cases b with
  | nil => exact ⟨rfl, (List.cons.inj (List.cons.inj h).2).2⟩
  | cons d b => exact absurd ((List.cons.inj h).1 ▸ List.mem_cons_self) hb
 | cons d a ih =>
  intro b ha hb h
  cases b with
  | nil =>
   cases a with
   | nil => cases (List.cons.inj (List.cons.inj h).2).1
   | cons e a =>
    obtain ⟨h1, h2⟩ := List.cons.inj h
    exact absurd (by rw [h1, (List.cons.inj h2).1]; rfl) (ha [] a)
  | cons e b =>
  simp only [List.cons_append, List.cons.injEq] at h
  have := ih (fun u v q => ha (d :: u) v (by rw [q]; rfl)) (fun q => hb (.tail _ q)) h.2
  exact ⟨by rw [h.1, this.1], this.2⟩
theorem zgl : ∀ (as bs : List PySem.Str), as ≠ [] → bs ≠ [] → (∀ a ∈ as, ∀ u v, a.cps.toList ≠ u ++ 13 :: 10 :: v) → (∀ b ∈ bs, 13 ∉ b.cps.toList) → Str.join ⟨#[13, 10]⟩ as = Str.join ⟨#[13, 10]⟩ bs → as = bs := by
 intro as
 induction as with
 | nil => exact fun bs h => absurd rfl h
 | cons a as ih =>
  intro bs _ hbs ha hb h
  cases bs with
  | nil => exact absurd rfl hbs
  | cons b bs =>
   cases as with
   | nil =>
    cases bs with
    | nil => have h : a = b := h; rw [h]
    | cons b' bs =>
     have h := congrArg (fun z : PySem.Str => z.cps.toList) h
     have e : (Str.join ⟨#[13, 10]⟩ (b :: b' :: bs)).cps.toList = b.cps.toList ++ 13 :: 10 :: (Str.join ⟨#[13, 10]⟩ (b' :: bs)).cps.toList := by
      show (b ++ (⟨#[13, 10]⟩ : PySem.Str) ++ Str.join ⟨#[13, 10]⟩ (b' :: bs)).cps.toList = _
      simp [Str.cps_append]
     exact (ha a (.head _) _ _ (by rw [← e]; exact h)).elim
   | cons a' as =>
    cases bs with
    | nil =>
     have h := congrArg (fun z : PySem.Str => z.cps.toList) h
     have e : (Str.join ⟨#[13, 10]⟩ (a :: a' :: as)).cps.toList = a.cps.toList ++ 13 :: 10 :: (Str.join ⟨#[13, 10]⟩ (a' :: as)).cps.toList := by
      show (a ++ (⟨#[13, 10]⟩ : PySem.Str) ++ Str.join ⟨#[13, 10]⟩ (a' :: as)).cps.toList = _
      simp [Str.cps_append]
     exact (hb b (.head _) (by
      have h' : b.cps.toList = a.cps.toList ++ 13 :: 10 :: (Str.join ⟨#[13, 10]⟩ (a' :: as)).cps.toList := by rw [← e]; exact h.symm
      rw [h']; simp)).elim
    | cons b' bs =>
     have h := congrArg (fun z : PySem.Str => z.cps.toList) h
     have e : ∀ (x y : PySem.Str) (l : List PySem.Str), (Str.join ⟨#[13, 10]⟩ (x :: y :: l)).cps.toList = x.cps.toList ++ 13 :: 10 :: (Str.join ⟨#[13, 10]⟩ (y :: l)).cps.toList := fun x y l => by
      show (x ++ (⟨#[13, 10]⟩ : PySem.Str) ++ Str.join ⟨#[13, 10]⟩ (y :: l)).cps.toList = _
      simp [Str.cps_append]
     rw [e, e] at h
     obtain ⟨h1, h2⟩ := zgh (ha a (.head _)) (hb b (.head _)) h
     rw [zar h1, ih (b' :: bs) (by simp) (by simp) (fun x hx => ha x (.tail _ hx)) (fun x hx => hb x (.tail _ hx)) (zar h2)]
noncomputable def cutZ : List Nat → List Nat → List (List Nat)
 | cur, [] => [cur.reverse]
 | cur, [c] => [(c :: cur).reverse]
 | cur, c :: d :: r => if c == 13 && d == 10 then cur.reverse :: cutZ [] r else cutZ (c :: cur) (d :: r)
noncomputable def cutStrs (x : PySem.Str) : List PySem.Str := (cutZ [] x.cps.toList).map fun l => ⟨l.toArray⟩
theorem cut_ne : ∀ (l cur : List Nat), cutZ cur l ≠ []
 | [], _ => by simp [cutZ]
 | [c], _ => by simp [cutZ]
 | c :: d :: r, cur => by
  unfold cutZ
  split
  ·simp
  ·exact cut_ne (d :: r) (c :: cur)
theorem zfV {x : PySem.Str} (h1 : Str.join ⟨#[13, 10]⟩ (cutStrs x) = x) (h2 : ((cutStrs x).all fun p => !p.cps.toList.contains 13) = true) : Txt.split x ⟨#[13, 10]⟩ = cutStrs x :=
 zgl _ _ (zex _ _) (by unfold cutStrs; simp [cut_ne]) (zes x) (fun b hb => by
  have := List.all_eq_true.mp h2 b hb
  simpa using this) ((StrLaws.join_split x _).trans h1.symm)
noncomputable def labL : Bool → Nat → List Nat
 | _, 0 => []
 | _, 1 => [92, 41]
 | b, 2 => if b then [] else [34, 41, 34]
 | _, 3 => [92, 34]
 | b, _ => if b then [] else [34, 40, 34]
noncomputable def labU : Bool → Nat → Nat → List (Nat × PySem.Str)
 | _, 0, _ => []
 | _, 1, p => [(p + 1, ⟨#[92, 41]⟩)]
 | b, 2, p => if b then [] else [(p, ⟨#[34]⟩), (p + 1, ⟨#[41]⟩), (p + 2, ⟨#[34]⟩)]
 | _, 3, p => [(p + 1, ⟨#[92, 34]⟩)]
 | b, _, p => if b then [] else [(p, ⟨#[34]⟩), (p + 1, ⟨#[40]⟩), (p + 2, ⟨#[34]⟩)]
noncomputable abbrev Tks := List (Option Nat)
noncomputable def tkL (b : Bool) : Option Nat → List Nat
 | none => [41]
 | some k => 40 :: labL b k
noncomputable def txT (b : Bool) (ts : Tks) : List Nat := ts.flatMap (tkL b)
noncomputable def unT (b : Bool) : Nat → Tks → List (Nat × PySem.Str)
 | _, [] => []
 | p, none :: ts => (p, ⟨#[41]⟩) :: unT b (p + 1) ts
 | p, some k :: ts => (p, ⟨#[40]⟩) :: (labU b k (p + 1) ++ unT b (p + 1 + (labL b k).length) ts)
theorem za2 (l : List Nat) (p a b : Nat) : esc l p false a = esc l p false b := by
 cases l <;> simp [esc]
theorem zey {c : Nat} (h : ¬ c = 92) (r : List Nat) (p a : Nat) : esc (c :: r) p false a = (p, ⟨#[c]⟩) :: esc r (p + 1) false 0 := by
 rw [esc, if_neg Bool.false_ne_true, if_neg h, za2 r (p + 1) p 0]
theorem go_op (p : Nat) (us : List (Nat × PySem.Str)) (o : Int) : checkGo ((p, ⟨#[40]⟩) :: us) o = checkGo us (o + 1) := by
 rw [checkGo]; dsimp only; rw [show ((⟨#[40]⟩ : PySem.Str) == cOp) = true by decide, if_pos rfl]
theorem go_cl (p : Nat) (us : List (Nat × PySem.Str)) (o : Int) (h : 0 ≤ o) : checkGo ((p, ⟨#[41]⟩) :: us) (o + 1) = checkGo us o := by
 rw [checkGo]; dsimp only; rw [show ((⟨#[41]⟩ : PySem.Str) == cOp) = false by decide, show ((⟨#[41]⟩ : PySem.Str) == cCl) = true by decide, if_neg Bool.false_ne_true, if_pos rfl, Int.add_sub_cancel, if_neg (by ktn_no "om")]
theorem zhP {x : PySem.Str} {a b : Nat} (h1 : a ≤ b) (h2 : b ≤ x.cps.toList.length) : (Txt.slice x (some (a : Nat)) (some (b : Nat))).cps.toList = (x.cps.toList.drop a).take (b - a) := by
 have := beq_iff_eq.mp (slice_closes (x := x) (i := (a : Nat)) (j := (b : Nat)) ⟨Int.natCast_nonneg a, Int.ofNat_le.mpr h1, Int.ofNat_le.mpr h2⟩)
 rw [this, Int.toNat_sub b a, Int.toNat_natCast]
theorem slice_a {x : PySem.Str} {a : Nat} (h2 : a ≤ x.cps.toList.length) : (Txt.slice x (some (a : Nat)) none).cps.toList = x.cps.toList.drop a := by
 have := beq_iff_eq.mp (slice_closes_from (x := x) (i := (a : Nat)) ⟨Int.natCast_nonneg a, Int.ofNat_le.mpr h2⟩)
 rw [this, Int.toNat_sub, Int.toNat_natCast]
 exact List.take_of_length_le (by rw [List.length_drop]; exact Nat.le_refl _)
noncomputable def kept (x : List Nat) (p : Nat) (st : SSt) : List Nat := (cat st.2.2).cps.toList ++ (x.drop st.1).take (p - st.1)
theorem zhN {x pre tok post : List Nat} {st : SSt} (hx : x = pre ++ (tok ++ post)) (h : st.1 ≤ pre.length) : kept x (pre.length + tok.length) st = kept x pre.length st ++ tok := by
 unfold kept
 subst hx
 rw [List.append_assoc, List.drop_append_of_le_length h, List.take_append, List.take_append, List.take_append, List.length_drop]
 rw [show pre.length + tok.length - st.1 - (pre.length - st.1) = tok.length from by rw [Nat.add_comm, Nat.add_sub_assoc h, Nat.add_sub_cancel], Nat.sub_self]
 rw [List.take_of_length_le (l := pre.drop st.1) (i := pre.length + tok.length - st.1) (by rw [List.length_drop]; exact Nat.sub_le_sub_right (Nat.le_add_right _ _) _), List.take_of_length_le (l := pre.drop st.1) (i := pre.length - st.1) (by rw [List.length_drop]; exact Nat.le_refl _)]
 simp
theorem zeF (x : PySem.Str) (st : SSt) (p : Nat) (u : PySem.Str) (h : (u == Q1) = false) : stripStep x st (p, u) = st := by
 unfold stripStep; rw [show ((p, u).2 == Q1) = false from h]; rfl
noncomputable def Lv (x : PySem.Str) (us : List (Nat × PySem.Str)) (p q : Nat) (t : List Nat) : Prop :=
 ∀ (a : Nat) (ps : List PySem.Str), a ≤ p → ∃ a' ps', us.foldl (stripStep x) (a, none, ps) = (a', none, ps') ∧ a' ≤ q ∧ kept x.cps.toList q (a', none, ps') = kept x.cps.toList p (a, none, ps) ++ t
theorem Lv.app {x : PySem.Str} {us vs : List (Nat × PySem.Str)} {p q r : Nat} {t u : List Nat} (h1 : Lv x us p q t) (h2 : Lv x vs q r u) : Lv x (us ++ vs) p r (t ++ u) := fun a ps ha => by
 (refine x2_3 (h1 a ps ha) ?_; intro a' ps' e b c)
 (refine x2_3 (h2 a' ps' b) ?_; intro a'' ps'' e2 b2 c2)
 exact ⟨a'', ps'', by rw [List.foldl_append, e, e2], b2, by rw [c2, c, List.append_assoc]⟩
theorem Lv.one {x : PySem.Str} {pre tok post : List Nat} {p k : Nat} {u : PySem.Str} (hx : x.cps.toList = pre ++ (tok ++ post)) (h : (u == Q1) = false) (e1 : p = pre.length) (e2 : k = p + tok.length) {i : Nat} : Lv x [(i, u)] p k tok := fun a ps ha => by
 subst e1 e2
 refine ⟨a, ps, ?_, by ktn_no "o4", zhN hx ha⟩
 rw [List.foldl_cons, List.foldl_nil, zeF x _ i u h]
theorem cat_end (x : PySem.Str) (a : Nat) (ps : List PySem.Str) (h : a ≤ x.cps.toList.length) : (cat (stripEnd x (a, none, ps))).cps.toList = kept x.cps.toList x.cps.toList.length (a, none, ps) := by
 have hl : x.length = x.cps.toList.length := rfl
 unfold stripEnd kept
 dsimp only
 by_cases q : a < x.length
 ·rw [if_pos q, zan, List.flatMap_append, zan]
  simp only [List.flatMap_cons, List.flatMap_nil, List.append_nil]
  rw [slice_a h, List.take_of_length_le (by rw [List.length_drop]; ktn_no "o4")]
 ·rw [if_neg q, List.drop_eq_nil_of_le (by ktn_no "om"), List.take_nil, List.append_nil]
theorem zhD {x : PySem.Str} {t : List Nat} (h : Lv x (units x) 0 x.cps.toList.length t) (hq : 34 ∉ x.cps.toList → x.cps.toList = t) : stripF x = ⟨t.toArray⟩ := by
 unfold stripF
 rw [show Q1 = ⟨#[34]⟩ by decide, empty_one]
 by_cases q : 34 ∈ x.cps.toList
 ·rw [decide_eq_true q, if_neg (by decide)]
  (refine x2_3 (h 0 [] (Nat.le_refl _)) ?_; intro a ps e ha hk)
  rw [e, show Txt.join ⟨#[]⟩ (stripEnd x (a, none, ps)) = Str.join ⟨#[]⟩ (stripEnd x (a, none, ps)) from StrLaws.glued_eq_join _ _, zaq]
  refine zar ?_
  rw [cat_end x a ps ha, hk]
  simp [kept, zb4]
 ·rw [decide_eq_false q, if_pos (by decide)]
  refine zar ?_
  rw [hq q]
theorem zgg {l : List Nat} (h : ∀ c ∈ l, c < 128) : (⟨l.toArray⟩ : PySem.Str).cps.all (· < 128) = true := by
 rw [Array.all_eq_true']
 intro c hc
 exact decide_eq_true (h c (by simpa using hc))
theorem esc_lab (b : Bool) : ∀ (k p a : Nat) (rest : List Nat), esc (labL b k ++ rest) p false a = labU b k p ++ esc rest (p + (labL b k).length) false 0
 | 0, p, a, rest => by simp [labL, labU]; exact za2 _ _ _ _
 | 1, p, a, rest => by simp [labL, labU, esc]; exact za2 _ _ _ _
 | 2, p, a, rest => by cases b <;> simp [labL, labU, esc] <;> exact za2 _ _ _ _
 | 3, p, a, rest => by simp [labL, labU, esc]; exact za2 _ _ _ _
 | k + 4, p, a, rest => by cases b <;> simp [labL, labU, esc] <;> exact za2 _ _ _ _
theorem esc_ts (b : Bool) : ∀ (ts : Tks) (p a : Nat), esc (txT b ts) p false a = unT b p ts
 | [], p, a => by simp [txT, unT, esc]
 | none :: ts, p, a => by
  have := esc_ts b ts (p + 1) 0
  show esc (41 :: txT b ts) p false a = _
  rw [zey (by decide), this]; rfl
 | some k :: ts, p, a => by
  have h1 := esc_lab b k (p + 1) 0 (txT b ts)
  have h2 := esc_ts b ts (p + 1 + (labL b k).length) 0
  show esc (40 :: (labL b k ++ txT b ts)) p false a = _
  rw [zey (by decide), h1, h2]; rfl
theorem zcZ (b : Bool) (ts : Tks) : units ⟨(txT b ts).toArray⟩ = unT b 0 ts := by
 have := esc_ts b ts 0 0
 exact this
theorem Lv.nil (x : PySem.Str) (p : Nat) : Lv x [] p p [] := fun a ps h => ⟨a, ps, rfl, h, by simp⟩
theorem Lv.quo {x : PySem.Str} {pre post : List Nat} {c : Nat} (hc : ((⟨#[c]⟩ : PySem.Str) == Q1) = false) (hx : x.cps.toList = pre ++ (34 :: c :: 34 :: post)) : Lv x [(pre.length, ⟨#[34]⟩), (pre.length + 1, ⟨#[c]⟩), (pre.length + 2, ⟨#[34]⟩)] pre.length (pre.length + 3) [] := fun a ps ha => by
 have hlen : pre.length + 3 ≤ x.cps.toList.length := by rw [hx]; simp
 refine ⟨pre.length + 3, if a = pre.length then ps else ps ++ [Txt.slice x (some a) (some (pre.length : Nat))], ?_, Nat.le_refl _, ?_⟩
 ·simp only [List.foldl_cons, List.foldl_nil]
  have e1 : stripStep x (a, none, ps) (pre.length, ⟨#[34]⟩) = (a, some pre.length, ps) := by
   unfold stripStep; dsimp only; rw [show ((⟨#[34]⟩ : PySem.Str) == Q1) = true by decide]; rfl
  rw [e1, zeF x _ _ ⟨#[c]⟩ hc]
  unfold stripStep; dsimp only; rw [show ((⟨#[34]⟩ : PySem.Str) == Q1) = true by decide]
  rfl
 ·have h0 : kept x.cps.toList pre.length (a, none, ps) = (cat ps).cps.toList ++ (x.cps.toList.drop a).take (pre.length - a) := rfl
  rw [List.append_nil, h0]
  unfold kept
  dsimp only
  rw [Nat.sub_self, List.take_zero, List.append_nil]
  split
  ·rename_i h
   rw [h, Nat.sub_self, List.take_zero, List.append_nil]
  ·rw [zan, List.flatMap_append, zan]
   simp only [List.flatMap_cons, List.flatMap_nil, List.append_nil]
   rw [zhP ha (by ktn_no "om")]
theorem Lv.lab {x : PySem.Str} {pre post : List Nat} (k : Nat) (hx : x.cps.toList = pre ++ (labL false k ++ post)) : Lv x (labU false k pre.length) pre.length (pre.length + (labL false k).length) (labL true k) := by
 match k, hx with
 | 0, hx => exact Lv.nil _ _
 | 1, hx => exact Lv.one (pre := pre) (tok := [92, 41]) hx (by decide) rfl rfl
 | 2, hx => exact Lv.quo (c := 41) (by decide) hx
 | 3, hx => exact Lv.one (pre := pre) (tok := [92, 34]) hx (by decide) rfl rfl
 | k + 4, hx => exact Lv.quo (c := 40) (by decide) hx
theorem Lv.ts {x : PySem.Str} : ∀ (ts : Tks) (pre : List Nat), x.cps.toList = pre ++ txT false ts → Lv x (unT false pre.length ts) pre.length (pre.length + (txT false ts).length) (txT true ts)
 | [], pre, hx => Lv.nil _ _
 | none :: ts, pre, hx => by
  have e0 : x.cps.toList = pre ++ ([41] ++ txT false ts) := hx
  have a := Lv.one (x := x) (pre := pre) (tok := [41]) (u := ⟨#[41]⟩) (p := pre.length) (k := pre.length + 1) (i := pre.length) e0 (by decide) rfl rfl
  have b := Lv.ts ts (pre ++ [41]) (by rw [e0]; simp)
  simp only [List.length_append, List.length_cons, List.length_nil, Nat.zero_add] at b
  have := a.app b
  have e : pre.length + (txT false (none :: ts)).length = pre.length + 1 + (txT false ts).length := by simp [txT, tkL]; ktn_no "o4"
  rw [e]
  exact this
 | some k :: ts, pre, hx => by
  have e0 : x.cps.toList = pre ++ ([40] ++ (labL false k ++ txT false ts)) := hx
  have a := Lv.one (x := x) (pre := pre) (tok := [40]) (u := ⟨#[40]⟩) (p := pre.length) (k := pre.length + 1) (i := pre.length) e0 (by decide) rfl rfl
  have b := Lv.lab (x := x) (pre := pre ++ [40]) (post := txT false ts) k (by rw [e0]; simp)
  have c := Lv.ts ts (pre ++ [40] ++ labL false k) (by rw [e0]; simp)
  simp only [List.length_append, List.length_cons, List.length_nil, Nat.zero_add] at b c
  have := a.app (b.app c)
  have e : pre.length + (txT false (some k :: ts)).length = pre.length + 1 + (labL false k).length + (txT false ts).length := by simp [txT, tkL]; ktn_no "o4"
  rw [e]
  exact this
theorem zhI (k : Nat) (h : 34 ∉ labL false k) : labL false k = labL true k := by
 match k with
 | 0 | 1 | 3 => rfl
 | 2 => exact absurd (.head _) h
 | k + 4 => exact absurd (.head _) h
theorem zd0 : ∀ ts : Tks, 34 ∉ txT false ts → txT false ts = txT true ts
 | [], h => rfl
 | none :: ts, h => by
  show 41 :: txT false ts = 41 :: txT true ts
  rw [zd0 ts fun q => h (.tail _ q)]
 | some k :: ts, h => by
  show 40 :: (labL false k ++ txT false ts) = 40 :: (labL true k ++ txT true ts)
  rw [zhI k fun q => h (.tail _ (List.mem_append_left _ q)), zd0 ts fun q => h (.tail _ (List.mem_append_right _ q))]
theorem zeR (ts : Tks) : stripF ⟨(txT false ts).toArray⟩ = ⟨(txT true ts).toArray⟩ := by
 refine zhD ?_ fun h => zd0 ts h
 rw [zcZ]
 have := Lv.ts (x := ⟨(txT false ts).toArray⟩) ts [] (by simp)
 simpa using this
theorem zgb (k p : Nat) (us : List (Nat × PySem.Str)) (o : Int) : checkGo (labU true k p ++ us) o = checkGo us o := by
 match k with
 | 0 | 2 | k + 4 => rfl
 | 1 =>
  show checkGo ((p + 1, ⟨#[92, 41]⟩) :: us) o = _
  rw [checkGo]; dsimp only; rw [show ((⟨#[92, 41]⟩ : PySem.Str) == cOp) = false by decide, show ((⟨#[92, 41]⟩ : PySem.Str) == cCl) = false by decide]
  rfl
 | 3 =>
  show checkGo ((p + 1, ⟨#[92, 34]⟩) :: us) o = _
  rw [checkGo]; dsimp only; rw [show ((⟨#[92, 34]⟩ : PySem.Str) == cOp) = false by decide, show ((⟨#[92, 34]⟩ : PySem.Str) == cCl) = false by decide]
  rfl
noncomputable def balGo : List Bool → Nat → Bool
 | [], o => o == 0
 | true :: ts, o => balGo ts (o + 1)
 | false :: ts, o + 1 => balGo ts o
 | false :: _, 0 => false
noncomputable abbrev shp (ts : Tks) : List Bool := ts.map (·.isSome)
theorem zcY : ∀ (ts : Tks) (p o : Nat), balGo (shp ts) o = true → checkGo (unT true p ts) (o : Int) = true
 | [], p, o, h => by
  have h : (o == 0) = true := h
  show ((o : Int) == 0) = true
  simpa using h
 | none :: ts, p, 0, h => by cases h
 | none :: ts, p, o + 1, h => by
  show checkGo ((p, ⟨#[41]⟩) :: unT true (p + 1) ts) ((o + 1 : Nat) : Int) = true
  have := go_cl p (unT true (p + 1) ts) (o : Int) (by ktn_no "om")
  rw [show ((o + 1 : Nat) : Int) = (o : Int) + 1 from rfl, this]
  exact zcY ts _ o h
 | some k :: ts, p, o, h => by
  show checkGo ((p, ⟨#[40]⟩) :: (labU true k (p + 1) ++ unT true (p + 1 + (labL true k).length) ts)) (o : Int) = true
  rw [go_op, zgb]
  exact zcY ts _ (o + 1) h
theorem zdG (ts : Tks) (h : balGo (shp ts) 0 = true) : checkF ⟨(txT false ts).toArray⟩ = true := by
 unfold checkF
 rw [zeR, zcZ]
 exact zcY ts 0 0 h
theorem lab_len (b : Bool) (k : Nat) : (labL b k).length ≤ 3 := by
 match k with
 | 0 | 1 | 3 => simp [labL]
 | 2 | k + 4 => cases b <;> simp [labL]
theorem tx_len (b : Bool) : ∀ ts : Tks, (txT b ts).length ≤ 4 * ts.length
 | [] => Nat.le_refl _
 | none :: ts => by have := tx_len b ts; show (41 :: txT b ts).length ≤ _; simp; ktn_no "o4"
 | some k :: ts => by have := tx_len b ts; have := lab_len b k; show (40 :: (labL b k ++ txT b ts)).length ≤ _; simp; ktn_no "o4"
theorem lab_asc (b : Bool) (k : Nat) : ∀ c ∈ labL b k, c < 128 := by
 match k with
 | 0 | 1 | 3 => simp [labL]
 | 2 | k + 4 => cases b <;> simp [labL]
theorem tx_asc (b : Bool) : ∀ (ts : Tks), ∀ c ∈ txT b ts, c < 128
 | [], c, h => by cases h
 | none :: ts, c, h => by
  rcases List.mem_cons.mp (show c ∈ 41 :: txT b ts from h) with rfl | h
  ·decide
  ·exact tx_asc b ts c h
 | some k :: ts, c, h => by
  rcases List.mem_cons.mp (show c ∈ 40 :: (labL b k ++ txT b ts) from h) with rfl | h
  ·decide
  ·rcases List.mem_append.mp h with h | h
   ·exact lab_asc b k c h
   ·exact tx_asc b ts c h
theorem zdK {x : PySem.Str} : ∀ (us : List (Nat × PySem.Str)) (st : SSt), (∀ y ∈ st.2.2, y.length ≤ x.length) → ∀ y ∈ (us.foldl (stripStep x) st).2.2, y.length ≤ x.length := by
 intro us
 induction us with
 | nil =>
  intro st h
  exact h
 | cons u us ih =>
  intro st h
  rw [List.foldl_cons]
  refine ih _ fun y hy => ?_
  unfold stripStep at hy
  split at hy
  ·split at hy
   ·exact h y hy
   ·dsimp only at hy
    split at hy
    ·exact h y hy
    ·rcases List.mem_append.mp hy with hy | hy
     ·exact h y hy
     ·simp at hy; rw [hy]; exact Txt.slice_le _ _ _
  ·exact h y hy
theorem zdR {x : PySem.Str} (h1 : x.cps.all (· < 128) = true) (h2 : x.length ≤ 500) : StripOk x := by
 refine ⟨h1, by ktn_no "o4", zb5 (N := 900) ?_ (fun y hy => ?_) (by decide)⟩
 ·have a := zdD x (units x) (0, none, [])
  have b := zdL x.cps.toList 0 false 0
  have c : x.cps.toList.length = x.length := rfl
  simp only [List.length_nil] at a
  have d : (units x).length ≤ x.cps.toList.length + 1 := b
  have e := Nat.le_trans a (by rw [Nat.zero_add]; exact Nat.le_trans d (Nat.succ_le_succ h2))
  unfold stripEnd
  split
  ·rw [List.length_append, List.length_singleton]; exact Nat.le_trans (Nat.succ_le_succ e) (by decide)
  ·exact Nat.le_trans e (by decide)
 ·have a := zdK (x := x) (units x) (0, none, []) (fun y hy => by cases hy)
  unfold stripEnd at hy
  split at hy
  ·rcases List.mem_append.mp hy with hy | hy
   ·exact Nat.le_trans (a y hy) (by ktn_no "om")
   ·simp at hy; rw [hy]; exact Nat.le_trans (Txt.slice_le _ _ _) (by ktn_no "om")
  ·exact Nat.le_trans (a y hy) (by ktn_no "om")
noncomputable def quoteL (l : List Nat) : List Nat := dotl true (crlS false l)
theorem zfC (l : List Nat) : quoteZ ⟨l.toArray⟩ = ⟨(quoteL l).toArray⟩ := by unfold quoteZ quoteL; rfl
theorem zhj : ∀ (l : List Nat) (b : Bool), (dotl b l).length ≤ 2 * l.length := by
 intro l
 induction l with
 | nil =>
  intro b
  cases b <;> exact Nat.le_refl _
 | cons c r ih =>
  intro b
  have h1 := ih false
  have h2 := ih (c == 10)
  unfold dotl
  split <;> simp <;> ktn_no "o4"
theorem zbg (l : List Nat) : (⟨l.toArray⟩ : PySem.Str).length = l.length := by show l.toArray.size = _; simp
noncomputable def joinL : List (List Nat) → List Nat
 | [] => []
 | [a] => a
 | a :: b :: r => a ++ 13 :: 10 :: joinL (b :: r)
theorem zeC : ∀ l : List (List Nat), Str.join ⟨#[13, 10]⟩ (l.map fun a => (⟨a.toArray⟩ : PySem.Str)) = ⟨(joinL l).toArray⟩
 | [] => rfl
 | [a] => rfl
 | a :: b :: r => by
  have ih := zeC (b :: r)
  refine zar ?_
  show ((⟨a.toArray⟩ : PySem.Str) ++ (⟨#[13, 10]⟩ : PySem.Str) ++ Str.join ⟨#[13, 10]⟩ ((b :: r).map fun a => (⟨a.toArray⟩ : PySem.Str))).cps.toList = _
  rw [ih]
  simp [Str.cps_append, joinL]
noncomputable def endL (tail : List Nat) : Option (List (List Nat)) :=
 if joinL (cutZ [] tail) = tail ∧ ((cutZ [] tail).all fun p => !p.contains 13) = true ∧ ((cutZ [] tail).all fun p => decide (p.length ≤ 90000)) = true then some (cutZ [] tail).dropLast else none
noncomputable def toD (l : List Nat) : PySem.Str × PySem.Str := (e0, ⟨l.toArray⟩)
noncomputable def lastD (st : List (List Nat)) : List Nat := st.getLastD []
noncomputable def closeDL (st : List (List Nat)) : List Nat := lastD st.dropLast ++ 46 :: 13 :: quoteL (lastD st)
noncomputable def dStepL (st : List (List Nat)) (o : Bool) : Option (List (List Nat)) :=
 if st.length ≤ 700 then
  if o then some (st ++ [[]])
  else if (lastD st.dropLast).length ≤ 1000 ∧ (lastD st).length ≤ 1000 then some (st.dropLast.dropLast ++ [closeDL st]) else none
 else none
noncomputable def dRunL : List Bool → List (List Nat) → Option (List (List Nat))
 | [], st => some st
 | o :: us, st => match dStepL st o with
  | some st' => dRunL us st'
  | none => none
theorem zbu (st : List (List Nat)) : topOf (st.map toD) = toD (lastD st) := by
 unfold topOf lastD
 cases h : st.getLast? with
 | none => rw [List.getLast?_eq_none_iff.mp h]; decide
 | some p => rw [List.getLastD_eq_getLast?, List.getLastD_eq_getLast?, List.getLast?_map, h]; rfl
theorem zbS (st : List (List Nat)) : (st.map toD).dropLast = st.dropLast.map toD := by rw [List.map_dropLast]
theorem zb7 (l : List Nat) (h : l.length ≤ 1000) : QOk (toD l).2 ∧ quoteF (toD l).2 = ⟨(quoteL l).toArray⟩ := by
 have := ze9 (x := (toD l).2) (by show (⟨l.toArray⟩ : PySem.Str).length ≤ 1000; rw [zbg]; exact h)
 exact ⟨this.1, this.2.trans (zfC l)⟩
theorem zcw (l : List Nat) (h : l.length ≤ 1000) : (quoteL l).length ≤ 4000 := by
 have a1 := zhj (crlS false l) true
 have a2 := zeX l false
 unfold quoteL; ktn_no "o4"
theorem zgB (st : List (List Nat)) (hl : (lastD st).length ≤ 1000) : closeD (st.map toD) = ⟨(closeDL st).toArray⟩ := by
 unfold closeD
 rw [zbS, zbu, zbu, (zb7 _ hl).2]
 have hd : dcrS.cps.toList = [46, 13] := by decide
 refine zar ?_
 unfold closeDL
 simp [Str.cps_append, toD, hd]
theorem zgE {st st' : List (List Nat)} (h : dStepL st true = some st') : st.length ≤ 700 ∧ st'.length ≤ 701 ∧ dStepOk (st.map toD) ⟨#[40]⟩ ∧ dotStep (st.map toD) ⟨#[40]⟩ = st'.map toD := by
 unfold dStepL at h
 split at h
 case isFalse => cases h
 case isTrue h8 =>
 rw [if_pos rfl] at h
 have h := Option.some.inj h
 subst h
 refine ⟨h8, by simp; ktn_no "o4", ⟨by rw [List.length_map]; ktn_no "o4", fun e => absurd e (by decide)⟩, ?_⟩
 unfold dotStep
 rw [if_pos (by decide), List.map_append]
 rfl
theorem zfe {st st' : List (List Nat)} (h : dStepL st false = some st') : dStepOk (st.map toD) ⟨#[41]⟩ ∧ dotStep (st.map toD) ⟨#[41]⟩ = st'.map toD := by
 unfold dStepL at h
 split at h
 case isFalse => cases h
 case isTrue h8 =>
 rw [if_neg Bool.false_ne_true] at h
 split at h
 case isFalse => cases h
 case isTrue hb =>
 have h := Option.some.inj h
 subst h
 have hq := zb7 (lastD st) hb.2
 refine ⟨⟨by rw [List.length_map]; ktn_no "o4", fun _ => ?_⟩, ?_⟩
 ·rw [zbS, zbu, zbu]
  refine ⟨?_, hq.1, ?_⟩
  ·show (⟨(lastD st.dropLast).toArray⟩ : PySem.Str).length ≤ 100000
   rw [zbg]; ktn_no "o4"
  ·rw [hq.2, zbg]
   have := zcw _ hb.2
   ktn_no "o4"
 ·unfold dotStep
  rw [if_neg (by decide), if_pos (by decide), zgB st hb.2, zbS, zbS, List.map_append]
  rfl
theorem zg3 (k p : Nat) (us : List (Nat × PySem.Str)) (st : List (PySem.Str × PySem.Str)) (hz : st.length ≤ 800) : (DotsOk us st → DotsOk (labU true k p ++ us) st) ∧ (labU true k p ++ us).foldl (fun st u => dotStep st u.2) st = us.foldl (fun st u => dotStep st u.2) st := by
 have key : ∀ u : PySem.Str, (u == cOp) = false → (u == cCl) = false → dotStep st u = st ∧ dStepOk st u := fun u h1 h2 =>
  ⟨by unfold dotStep; rw [h1, h2]; rfl, hz, fun e => by rw [h2] at e; cases e⟩
 match k with
 | 0 | 2 | k + 4 => exact ⟨id, rfl⟩
 | 1 =>
  obtain ⟨a, b⟩ := key ⟨#[92, 41]⟩ (by decide) (by decide)
  refine ⟨fun h => ⟨b, ?_⟩, ?_⟩
  ·show DotsOk us (dotStep st ⟨#[92, 41]⟩)
   rw [a]; exact h
  ·show us.foldl _ (dotStep st ⟨#[92, 41]⟩) = _
   rw [a]
 | 3 =>
  obtain ⟨a, b⟩ := key ⟨#[92, 34]⟩ (by decide) (by decide)
  refine ⟨fun h => ⟨b, ?_⟩, ?_⟩
  ·show DotsOk us (dotStep st ⟨#[92, 34]⟩)
   rw [a]; exact h
  ·show us.foldl _ (dotStep st ⟨#[92, 34]⟩) = _
   rw [a]
theorem zeq : ∀ (ts : Tks) (p : Nat) (st st' : List (List Nat)), dRunL (shp ts) st = some st' → DotsOk (unT true p ts) (st.map toD) ∧ (unT true p ts).foldl (fun st u => dotStep st u.2) (st.map toD) = st'.map toD
 | [], p, st, st', h => ⟨trivial, by rw [Option.some.inj h]; rfl⟩
 | none :: ts, p, st, st', h => by
  have h : (match dStepL st false with | some st' => dRunL (shp ts) st' | none => none) = some st' := h
  split at h
  case h_2 => cases h
  case h_1 st₁ hs =>
  obtain ⟨h1, h2⟩ := zfe hs
  obtain ⟨h3, h4⟩ := zeq ts (p + 1) st₁ st' h
  refine ⟨⟨h1, ?_⟩, ?_⟩
  ·show DotsOk (unT true (p + 1) ts) (dotStep (st.map toD) ⟨#[41]⟩)
   rw [h2]; exact h3
  ·show (unT true (p + 1) ts).foldl _ (dotStep (st.map toD) ⟨#[41]⟩) = _
   rw [h2]; exact h4
 | some k :: ts, p, st, st', h => by
  have h : (match dStepL st true with | some st' => dRunL (shp ts) st' | none => none) = some st' := h
  split at h
  case h_2 => cases h
  case h_1 st₁ hs =>
  (refine x0_4 (zgE hs) ?_; intro h0 hz h1 h2)
  obtain ⟨h3, h4⟩ := zeq ts (p + 1 + (labL true k).length) st₁ st' h
  obtain ⟨l1, l2⟩ := zg3 k (p + 1) (unT true (p + 1 + (labL true k).length) ts) (st₁.map toD) (by rw [List.length_map]; ktn_no "o4")
  refine ⟨⟨h1, ?_⟩, ?_⟩
  ·show DotsOk (labU true k (p + 1) ++ unT true (p + 1 + (labL true k).length) ts) (dotStep (st.map toD) ⟨#[40]⟩)
   rw [h2]; exact l1 h3
  ·show (labU true k (p + 1) ++ unT true (p + 1 + (labL true k).length) ts).foldl _ (dotStep (st.map toD) ⟨#[40]⟩) = _
   rw [h2, l2]; exact h4
noncomputable def dotsZ (bs : List Bool) : Option (List Nat) :=
 match dRunL bs [] with
 | some st => if st.length ≤ 700 ∧ (lastD st).length ≤ 1000 then
   (match endL (quoteL (lastD st)) with
   | some rows => if rows.all (fun r => 0 < r.length) then some (rows.map fun r => r.length - 1) else none
   | none => none) else none
 | none => none
theorem zeM {ts : Tks} {dn : List Nat} (hlen : ts.length ≤ 20) (h : dotsZ (shp ts) = some dn) : DotsFine ⟨(txT false ts).toArray⟩ ∧ dotsF ⟨(txT false ts).toArray⟩ = dn.map fun d : Nat => (d : Int) := by
 unfold dotsZ at h
 split at h
 case h_2 => cases h
 case h_1 st hst =>
 split at h
 case isFalse => cases h
 case isTrue hb =>
 obtain ⟨b1, b2⟩ := hb
 split at h
 case h_2 => cases h
 case h_1 rows hrows =>
 split at h
 case isFalse => cases h
 case isTrue hpos =>
 have h := Option.some.inj h
 obtain ⟨m1, m2⟩ := zeq ts 0 [] st hst
 have hs := zeR ts
 have hu := zcZ true ts
 have e1 : dotsEnd ⟨(txT false ts).toArray⟩ = st.map toD := by unfold dotsEnd; rw [hs, hu]; exact m2
 have q := zb7 (lastD st) b2
 have e2 : dotsTail ⟨(txT false ts).toArray⟩ = ⟨(quoteL (lastD st)).toArray⟩ := by
  unfold dotsTail
  rw [e1, zbu]
  exact q.2
 unfold endL at hrows
 split at hrows
 case isFalse => cases hrows
 case isTrue hc =>
 (refine x0_3 (hc) ?_; try clear hc; intro c1 c2 c3)
 have hrows := Option.some.inj hrows
 have hcs : cutStrs ⟨(quoteL (lastD st)).toArray⟩ = (cutZ [] (quoteL (lastD st))).map fun a => (⟨a.toArray⟩ : PySem.Str) := by unfold cutStrs; rfl
 have es : Txt.split (⟨(quoteL (lastD st)).toArray⟩ : PySem.Str) crlfZ = (cutZ [] (quoteL (lastD st))).map fun a => (⟨a.toArray⟩ : PySem.Str) := by
  rw [show crlfZ = ⟨#[13, 10]⟩ by decide, ← hcs]
  refine zfV ?_ ?_
  ·rw [hcs, zeC, c1]
  ·rw [hcs, List.all_map]
   exact c2
 have hql := zcw _ b2
 have ht := tx_len false ts
 refine ⟨⟨zdR (zgg (tx_asc false ts)) (by rw [zbg]; ktn_no "o4"), by rw [hs]; exact zgg (tx_asc true ts), by rw [hs, hu]; exact m1, by rw [e1, List.length_map]; ktn_no "o4", by rw [e1, zbu]; exact q.1, by rw [e2, zbg]; ktn_no "o4", fun r hr => ?_⟩, ?_⟩
 ·rw [e2, es] at hr
  (refine x1_2 (List.mem_map.mp (List.dropLast_subset _ hr)) ?_; intro a ha' eqX2; subst eqX2)
  rw [zbg]
  exact of_decide_eq_true (List.all_eq_true.mp c3 a ha')
 ·unfold dotsF
  rw [e2, es, ← h, ← hrows, ← List.map_dropLast, List.map_map, List.map_map]
  refine List.map_congr_left fun r hr => ?_
  have hp := List.all_eq_true.mp hpos r (by rw [← hrows]; exact hr)
  have hp : 0 < r.length := of_decide_eq_true hp
  show ((⟨r.toArray⟩ : PySem.Str).length : Int) - 1 = ((r.length - 1 : Nat) : Int)
  rw [zbg]
  exact (Int.ofNat_sub hp).symm
theorem zbv (k : Nat) : (wordS k).cps.toList = List.replicate k 120 ++ [59] := by
 show (Txt.mul xS k ++ scS).cps.toList = _
 rw [Str.cps_append, Array.toList_append, show xS = ⟨#[120]⟩ by decide, mul_one_list, show scS.cps = #[59] by decide]
 simp
theorem zaR (k : Nat) : (wordS k).length = k + 1 := by
 show (wordS k).cps.size = _
 rw [← Array.length_toList, zbv]; simp
theorem zdS (c : Nat) : ∀ a b : List Nat, cnt c (a ++ b) = cnt c a + cnt c b
 | [], b => by rw [List.nil_append, cnt_nil]; simp
 | x :: a, b => by rw [List.cons_append, cnt_cons, cnt_cons, zdS c a b]; ktn_no "o4"
theorem zhh (k : Nat) : cnt 59 (wordS k).cps.toList = 1 := by
 rw [zbv, zdS]
 have : cnt 59 (List.replicate k 120) = 0 := by
  induction k with
  | zero => rfl
  | succ k ih => rw [List.replicate_succ, cnt_cons, ih]; rfl
 rw [this]; rfl
theorem zf6 {ks : List Nat} {row : List PySem.Str} (h : ∀ v ∈ row, v ∈ ks.map wordS) : Txt.count (cat row) scS = row.length := by
 rw [show scS = ⟨#[59]⟩ by decide, count_cnt, zan]
 induction row with
 | nil => rfl
 | cons v row ih =>
  (refine x1_2 (List.mem_map.mp (h v (.head _))) ?_; intro k _ eqX2; subst eqX2)
  rw [List.flatMap_cons, zdS, zhh, ih fun u hu => h u (.tail _ hu)]
  simp; ktn_no "o4"
theorem rowV_cn {W : Int} {ks : List Nat} {ws : List PySem.Str} (h : ∀ v ∈ ws, v ∈ ks.map wordS) : rowV W ws = (cn W ws).map fun k : Nat => (k : Int) := by
 unfold rowV
 rw [zbC, show nlS = ⟨#[10]⟩ by decide, show Txt.join ⟨#[10]⟩ ((rowsG W ws).map cat) = Str.join ⟨#[10]⟩ ((rowsG W ws).map cat) from StrLaws.glued_eq_join _ _]
 have hmem : ∀ row ∈ rowsG W ws, ∀ v ∈ row, v ∈ ks.map wordS := fun row hr v hv => h v (by
  rw [← zcH W ws]; exact List.mem_flatten.mpr ⟨row, hr, hv⟩)
 rw [zc0]
 ·unfold cn
  rw [List.map_map, List.map_map]
  refine List.map_congr_left fun row hr => ?_
  exact zf6 (hmem row hr)
 ·unfold rowsG; simp
 ·intro a ha
  (refine x1_2 (List.mem_map.mp ha) ?_; intro row hr eqX2; subst eqX2)
  rw [zan]
  intro q
  (refine x1_2 (List.mem_flatMap.mp q) ?_; intro v hv hc)
  (refine x1_2 (List.mem_map.mp (hmem row hr v hv)) ?_; intro k _ eqX2; subst eqX2)
  rw [zbv] at hc
  rcases List.mem_append.mp hc with hc | hc
  ·rw [List.mem_replicate] at hc; ktn_no "o4"
  ·simp at hc
noncomputable def rN (W : Int) (ks : List Nat) (p : Nat) : Nat := p + 1 + more W ((ks.getD p 0 : Nat) + 1 : Int) ((ks.map wordS).drop (p + 1))
theorem zgO {ks : List Nat} {p : Nat} (hp : p < ks.length) : (ks.map wordS).drop p = wordS (ks.getD p 0) :: (ks.map wordS).drop (p + 1) := by
 rw [List.drop_eq_getElem_cons (by simpa using hp)]
 simp [List.getD_eq_getElem?_getD, List.getElem?_eq_getElem hp]
theorem cn_drop {W : Int} {ks : List Nat} {p : Nat} (hp : p < ks.length) :
  cn W ((ks.map wordS).drop p) = (rN W ks p - p) :: (if ks.length ≤ rN W ks p then [] else cn W ((ks.map wordS).drop (rN W ks p))) := by
 rw [zgO hp, cn_cons, zaR]
 unfold rN
 push_cast
 congr 1
 ·rw [Nat.add_assoc p 1]; exact (Nat.add_sub_cancel_left p _).symm
 ·rw [List.length_drop, List.length_map, List.drop_drop]
  by_cases q : ks.length - (p + 1) ≤ more W ((ks.getD p 0 : Nat) + 1 : Int) ((ks.map wordS).drop (p + 1))
  ·rw [if_pos q, if_pos (Nat.sub_le_iff_le_add'.mp q)]
  ·rw [if_neg q, if_neg (fun z => q (Nat.sub_le_iff_le_add'.mpr z))]
theorem rN_le {W : Int} {ks : List Nat} {p : Nat} (hp : p < ks.length) : p < rN W ks p ∧ rN W ks p ≤ ks.length := by
 unfold rN
 have := zgG W ((ks.map wordS).drop (p + 1)) ((ks.getD p 0 : Nat) + 1 : Int)
 rw [List.length_drop, List.length_map] at this
 exact ⟨Nat.lt_of_lt_of_le (Nat.lt_succ_self p) (Nat.le_add_right _ _), Nat.add_le_of_le_sub' hp this⟩
noncomputable def SS (ks : List Nat) (p q : Nat) : Int := ((((ks.map fun k => ((k + 1 : Nat) : Int)).drop p).take (q + 1 - p))).sum
theorem rN_iff {W : Int} {ks : List Nat} {p q : Nat} (hpq : p < q) (hq : q < ks.length) : q < rN W ks p ↔ SS ks p q ≤ W := by
 have hp := Nat.lt_trans hpq hq
 obtain ⟨d, rfl⟩ := Nat.exists_eq_add_of_le hpq
 have hs := zgd W ((ks.map wordS).drop (p + 1)) ((ks.getD p 0 : Nat) + 1 : Int) d (by rw [List.length_drop, List.length_map]; exact Nat.lt_sub_of_add_lt (by rw [Nat.add_comm]; exact hq))
 have e0 : p + 1 + d + 1 - p = d + 1 + 1 := by rw [Nat.add_right_comm p 1 d]; exact Nat.add_sub_cancel_left p (d + 2)
 have e : SS ks p (p + 1 + d) = ((ks.getD p 0 : Nat) + 1 : Int) + lens (((ks.map wordS).drop (p + 1)).take (d + 1)) := by
  unfold SS lens
  rw [List.drop_eq_getElem_cons (by rw [List.length_map]; exact hp), e0, List.take_succ_cons, List.sum_cons, List.map_take, List.map_drop, List.map_map]
  have e1 : ((fun v : PySem.Str => (v.length : Int)) ∘ wordS) = fun k : Nat => ((k + 1 : Nat) : Int) := funext fun k => by show ((wordS k).length : Int) = _; rw [zaR]
  rw [e1]
  simp [List.getD_eq_getElem?_getD, List.getElem?_eq_getElem hp]
 rw [e, ← hs]
 exact Nat.add_lt_add_iff_left
theorem SS_mono {ks : List Nat} {p q : Nat} (hpq : p < q) (hq : q < ks.length) : SS ks (p + 1) q ≤ SS ks p q := by
 have hp := Nat.lt_trans hpq hq
 have e : SS ks p q = ((ks.getD p 0 : Nat) + 1 : Int) + SS ks (p + 1) q := by
  unfold SS
  rw [List.drop_eq_getElem_cons (by rw [List.length_map]; exact hp), n3 (Nat.lt_succ_of_lt hpq), List.take_succ_cons, List.sum_cons]
  simp [List.getD_eq_getElem?_getD, List.getElem?_eq_getElem hp]
 rw [e]; exact Int.le_add_of_nonneg_left (Int.add_nonneg (Int.natCast_nonneg _) (by decide))
theorem rN_mono {W : Int} {ks : List Nat} {p : Nat} (hp : p + 1 < ks.length) : rN W ks p ≤ rN W ks (p + 1) := by
 have h1 := rN_le (W := W) (ks := ks) (p := p) (Nat.lt_of_succ_lt hp)
 have h2 := rN_le (W := W) (ks := ks) (p := p + 1) hp
 by_cases q : rN W ks p ≤ p + 2
 ·exact Nat.le_trans q h2.1
 ·have e : rN W ks p - 1 + 1 = rN W ks p := Nat.sub_add_cancel (Nat.lt_of_le_of_lt (Nat.zero_le _) h1.1)
  have a : p + 1 < rN W ks p - 1 := Nat.lt_of_succ_lt_succ (Nat.lt_of_lt_of_le (Nat.lt_of_not_le q) (Nat.le_of_eq e.symm))
  have b : rN W ks p - 1 < rN W ks p := Nat.le_of_eq e
  have c := Nat.lt_of_lt_of_le b h1.2
  have h3 := (rN_iff (W := W) (Nat.lt_of_succ_lt a) c).mp b
  have h5 := (rN_iff (W := W) a c).mpr (Int.le_trans (SS_mono (Nat.lt_of_succ_lt a) c) h3)
  exact Nat.le_trans (Nat.le_of_eq e.symm) h5
theorem zg8 {ks : List Nat} {p : Nat} : ∀ v ∈ (ks.map wordS).drop p, v ∈ ks.map wordS := fun _ h => List.mem_of_mem_drop h
theorem head_rN {W : Int} {ks : List Nat} {p : Nat} (hp : p < ks.length) : (p : Int) + (rowV W ((ks.map wordS).drop p)).headD 0 = (rN W ks p : Nat) := by
 rw [rowV_cn (ks := ks) zg8, cn_drop hp]
 have := rN_le (W := W) (ks := ks) (p := p) hp
 simp only [List.map_cons, List.headD_cons]
 exact congrArg Int.ofNat (Nat.add_sub_cancel' (Nat.le_of_lt this.1))
noncomputable def rL (W : Int) (ks : List Nat) : List Nat := (List.range 5).map (rN W ks)
theorem rL_len (W : Int) (ks : List Nat) : (rL W ks).length = 5 := by simp [rL]
theorem rL_get {W : Int} {ks : List Nat} {p : Nat} (hp : p < 5) : (rL W ks).getD p 0 = rN W ks p := by
 unfold rL; rw [List.getD_eq_getElem?_getD, List.getElem?_map, List.getElem?_range hp]; rfl
theorem zeG {W : Int} {ks : List Nat} (h : ks.length = 5) : (List.range 5).map (reachF W (ks.map wordS)) = (rL W ks).map fun k : Nat => (k : Int) := by
 unfold rL
 rw [List.map_map]
 refine List.map_congr_left fun p hp => ?_
 have hp : p < 5 := List.mem_range.mp hp
 have := head_rN (W := W) (ks := ks) (p := p) (by ktn_no "om")
 unfold reachF
 show _ = ((rN W ks p : Nat) : Int)
 rw [← this]
 cases rowV W ((ks.map wordS).drop p) <;> rfl
noncomputable def cls : Nat → Nat → List (List Nat)
 | 0, _ => [[]]
 | k + 1, lo => (List.range 6).flatMap fun a => if 4 - k < a ∧ lo ≤ a then (cls k a).map (a :: ·) else []
theorem mem_cls : ∀ (k lo : Nat) (r : List Nat), k ≤ 5 → r.length = k → (∀ i (h : i < r.length), 5 - k + i < r[i] ∧ r[i] ≤ 5 ∧ lo ≤ r[i]) → (∀ i (h : i + 1 < r.length), r[i] ≤ r[i + 1]) → r ∈ cls k lo := by
 intro k
 induction k with
 | zero =>
  intro lo r _ hl _ _
  rw [List.eq_nil_of_length_eq_zero hl]; exact .head _
 | succ k ih =>
  intro lo r h6 hl hb hm
  cases r with
  | nil => cases hl
  | cons a r =>
  unfold cls
  have h0 := hb 0 (by simp)
  simp only [List.getElem_cons_zero] at h0
  have hlr : r.length = k := by simpa using hl
  have e5 : 5 - (k + 1) = 4 - k := Nat.succ_sub_succ 4 k
  have e6 : 5 - k = 4 - k + 1 := Nat.succ_sub (Nat.le_of_succ_le_succ h6)
  rw [Nat.add_zero, e5] at h0
  refine List.mem_flatMap.mpr ⟨a, List.mem_range.mpr (Nat.lt_succ_of_le h0.2.1), ?_⟩
  rw [if_pos ⟨h0.1, h0.2.2⟩]
  refine List.mem_map_of_mem (ih a r (Nat.le_of_succ_le h6) hlr (fun i hi => ?_) fun i hi => ?_)
  ·have h1 := hb (i + 1) (by simpa using hi)
   simp only [List.getElem_cons_succ] at h1
   rw [e5] at h1
   refine ⟨by rw [e6, Nat.add_right_comm]; exact h1.1, h1.2.1, ?_⟩
   have key : ∀ i (h : i < r.length), a ≤ r[i] := fun i => by
    induction i with
    | zero =>
     intro h
     have := hm 0 (by simpa using h)
     simpa using this
    | succ i ih =>
     intro h
     have := hm (i + 1) (by simpa using h)
     simp only [List.getElem_cons_succ] at this
     exact Nat.le_trans (ih (Nat.lt_of_succ_lt h)) this
   exact key i hi
  ·have := hm (i + 1) (by simpa using hi)
   simpa using this
theorem rL_cls {W : Int} {ks : List Nat} (h : ks.length = 5) : rL W ks ∈ cls 5 0 := by
 have hg : ∀ (i : Nat) (hi : i < (rL W ks).length), (rL W ks)[i] = rN W ks i := fun i hi => by simp [rL]
 refine mem_cls 5 0 _ (by ktn_no "om") (rL_len W ks) (fun i hi => ?_) fun i hi => ?_
 ·rw [hg i hi]
  have hi' : i < 5 := by rw [rL_len] at hi; exact hi
  have := rN_le (W := W) (ks := ks) (p := i) (by rw [h]; exact hi')
  exact ⟨by rw [Nat.sub_self, Nat.zero_add]; exact this.1, Nat.le_trans this.2 (Nat.le_of_eq h), Nat.zero_le _⟩
 ·rw [hg i (Nat.lt_of_succ_lt hi), hg (i + 1) hi]
  have hi' : i + 1 < 5 := by rw [rL_len] at hi; exact hi
  exact rN_mono (by rw [h]; exact hi')
noncomputable def backR (r : List Nat) : List Nat := (List.range 5).map fun p => p + 1 + ((List.range 5).filter fun q => decide (p < q) && decide (4 - p < r.getD (4 - q) 0)).length
theorem sr1 : ∀ p, p < 5 → ∀ q, q < 5 → p < q → min (5 - p) 5 - (q + 1 - p) = 4 - q ∧ 5 - p - (min (5 - p) 5 - (q + 1 - p)) = 4 - p + 1 - (4 - q) := by decide
theorem SS_rev {ks : List Nat} (h : ks.length = 5) {p q : Nat} (hpq : p < q) (hq : q < 5) : SS ks.reverse p q = SS ks (4 - q) (4 - p) := by
 unfold SS
 have hl : (ks.map fun k => ((k + 1 : Nat) : Int)).length = 5 := by rw [List.length_map, h]
 rw [List.map_reverse]
 generalize (ks.map fun k => ((k + 1 : Nat) : Int)) = l at hl ⊢
 rw [List.drop_reverse, List.take_reverse, List.sum_reverse_int, List.drop_take, List.length_take, hl]
 congr 2
 ·exact (sr1 p (Nat.lt_trans hpq hq) q hq hpq).2
 ·congr 1
  exact (sr1 p (Nat.lt_trans hpq hq) q hq hpq).1
theorem zgH : ∀ p, p < 5 → ∀ r, r ≤ 5 → p < r → p + 1 + ((List.range 5).filter fun q => decide (p < q) && decide (q < r)).length = r := by decide
theorem back_rL {W : Int} {ks : List Nat} (h : ks.length = 5) : rL W ks.reverse = backR (rL W ks) := by
 unfold backR
 conv => lhs; unfold rL
 refine List.map_congr_left fun p hp => ?_
 have hp : p < 5 := List.mem_range.mp hp
 have hr : ks.reverse.length = 5 := by simpa using h
 have h1 := rN_le (W := W) (ks := ks.reverse) (p := p) (by rw [hr]; exact hp)
 rw [← zgH p hp (rN W ks.reverse p) (Nat.le_trans h1.2 (Nat.le_of_eq hr)) h1.1]
 congr 2
 refine List.filter_congr fun q hq => ?_
 have hq : q < 5 := List.mem_range.mp hq
 by_cases c : p < q
 ·rw [decide_eq_true c, Bool.true_and, Bool.true_and]
  have a1 := rN_iff (W := W) (ks := ks.reverse) (p := p) (q := q) c (by rw [hr]; exact hq)
  have a2 := rN_iff (W := W) (ks := ks) (p := 4 - q) (q := 4 - p) (Nat.sub_lt_sub_left (Nat.lt_of_lt_of_le c (Nat.le_of_lt_succ hq)) c) (by rw [h]; exact Nat.lt_succ_of_le (Nat.sub_le 4 p))
  rw [SS_rev h c hq] at a1
  rw [rL_get (Nat.lt_succ_of_le (Nat.sub_le 4 q))]
  by_cases c2 : q < rN W ks.reverse p
  ·rw [decide_eq_true c2, decide_eq_true (a2.mpr (a1.mp c2))]
  ·rw [decide_eq_false c2, decide_eq_false (fun z => c2 (a1.mpr (a2.mp z)))]
 ·rw [decide_eq_false c]; rfl
@[irreducible] noncomputable def ordN : List (List Nat) := [[4, 3, 2, 1, 0], [3, 4, 2, 1, 0], [3, 2, 4, 1, 0], [3, 2, 1, 4, 0], [3, 2, 1, 0, 4], [4, 2, 3, 1, 0], [2, 4, 3, 1, 0], [2, 3, 4, 1, 0], [2, 3, 1, 4, 0], [2, 3, 1, 0, 4], [4, 2, 1, 3, 0], [2, 4, 1, 3, 0], [2, 1, 4, 3, 0], [2, 1, 3, 4, 0], [2, 1, 3, 0, 4], [4, 2, 1, 0, 3], [2, 4, 1, 0, 3], [2, 1, 4, 0, 3], [2, 1, 0, 4, 3], [2, 1, 0, 3, 4], [4, 3, 1, 2, 0], [3, 4, 1, 2, 0], [3, 1, 4, 2, 0], [3, 1, 2, 4, 0], [3, 1, 2, 0, 4], [4, 1, 3, 2, 0], [1, 4, 3, 2, 0], [1, 3, 4, 2, 0], [1, 3, 2, 4, 0], [1, 3, 2, 0, 4], [4, 1, 2, 3, 0], [1, 4, 2, 3, 0], [1, 2, 4, 3, 0], [1, 2, 3, 4, 0], [1, 2, 3, 0, 4], [4, 1, 2, 0, 3], [1, 4, 2, 0, 3], [1, 2, 4, 0, 3], [1, 2, 0, 4, 3], [1, 2, 0, 3, 4], [4, 3, 1, 0, 2], [3, 4, 1, 0, 2], [3, 1, 4, 0, 2], [3, 1, 0, 4, 2], [3, 1, 0, 2, 4], [4, 1, 3, 0, 2], [1, 4, 3, 0, 2], [1, 3, 4, 0, 2], [1, 3, 0, 4, 2], [1, 3, 0, 2, 4], [4, 1, 0, 3, 2], [1, 4, 0, 3, 2], [1, 0, 4, 3, 2], [1, 0, 3, 4, 2], [1, 0, 3, 2, 4], [4, 1, 0, 2, 3], [1, 4, 0, 2, 3], [1, 0, 4, 2, 3], [1, 0, 2, 4, 3], [1, 0, 2, 3, 4], [4, 3, 2, 0, 1], [3, 4, 2, 0, 1], [3, 2, 4, 0, 1], [3, 2, 0, 4, 1], [3, 2, 0, 1, 4], [4, 2, 3, 0, 1], [2, 4, 3, 0, 1], [2, 3, 4, 0, 1], [2, 3, 0, 4, 1], [2, 3, 0, 1, 4], [4, 2, 0, 3, 1], [2, 4, 0, 3, 1], [2, 0, 4, 3, 1], [2, 0, 3, 4, 1], [2, 0, 3, 1, 4], [4, 2, 0, 1, 3], [2, 4, 0, 1, 3], [2, 0, 4, 1, 3], [2, 0, 1, 4, 3], [2, 0, 1, 3, 4], [4, 3, 0, 2, 1], [3, 4, 0, 2, 1], [3, 0, 4, 2, 1], [3, 0, 2, 4, 1], [3, 0, 2, 1, 4], [4, 0, 3, 2, 1], [0, 4, 3, 2, 1], [0, 3, 4, 2, 1], [0, 3, 2, 4, 1], [0, 3, 2, 1, 4], [4, 0, 2, 3, 1], [0, 4, 2, 3, 1], [0, 2, 4, 3, 1], [0, 2, 3, 4, 1], [0, 2, 3, 1, 4], [4, 0, 2, 1, 3], [0, 4, 2, 1, 3], [0, 2, 4, 1, 3], [0, 2, 1, 4, 3], [0, 2, 1, 3, 4], [4, 3, 0, 1, 2], [3, 4, 0, 1, 2], [3, 0, 4, 1, 2], [3, 0, 1, 4, 2], [3, 0, 1, 2, 4], [4, 0, 3, 1, 2], [0, 4, 3, 1, 2], [0, 3, 4, 1, 2], [0, 3, 1, 4, 2], [0, 3, 1, 2, 4], [4, 0, 1, 3, 2], [0, 4, 1, 3, 2], [0, 1, 4, 3, 2], [0, 1, 3, 4, 2], [0, 1, 3, 2, 4], [4, 0, 1, 2, 3], [0, 4, 1, 2, 3], [0, 1, 4, 2, 3], [0, 1, 2, 4, 3], [0, 1, 2, 3, 4]]
theorem ord_eq : ordersF 5 = ordN.map fun o => o.map fun k : Nat => (k : Int) := by decide +kernel
noncomputable def encS (l : List Bool) : PySem.Str := Txt.join e0 (l.map abS)
theorem zeP (l : List Bool) : (encS l).cps.toList = l.map fun b => if b then 98 else 97 := by
 unfold encS
 rw [show Txt.join e0 (l.map abS) = Str.join e0 (l.map abS) from StrLaws.glued_eq_join _ _, show e0 = (⟨#[]⟩ : PySem.Str) by decide, zaq, zan]
 induction l with
 | nil => rfl
 | cons b l ih =>
  rw [List.map_cons, List.flatMap_cons, ih, List.map_cons]
  cases b <;> rfl
theorem zga : ∀ l : List Bool, cnt 98 (l.map fun b => if b then 98 else 97) = (l.count true : Nat)
 | [] => rfl
 | b :: l => by
  rw [List.map_cons, cnt_cons, zga l, List.count_cons]
  cases b <;> simp <;> ktn_no "o4"
theorem zeL (l : List Bool) : cntB (encS l) = (l.count true : Nat) := by
 unfold cntB
 rw [show Str.ofString "b" = (⟨#[98]⟩ : PySem.Str) by decide, count_cnt, zeP]
 exact zga l
noncomputable def bN : List Bool → Nat
 | [] => 0
 | b :: l => (if b then 1 else 0) + 2 * bN l
theorem bN_inj : ∀ l l' : List Bool, l.length = l'.length → bN l = bN l' → l = l'
 | [], [], _, _ => rfl
 | [], _ :: _, h, _ => by simp at h
 | _ :: _, [], h, _ => by simp at h
 | a :: l, b :: l', h, e => by
  unfold bN at e
  have hl : l.length = l'.length := by simpa using h
  cases a <;> cases b <;> simp only [if_true, if_false, Bool.false_eq_true] at e <;> first | (exfalso; ktn_no "o4") | (rw [bN_inj l l' hl (by ktn_no "om")])
noncomputable def pcN : Nat → Nat → Nat
 | 0, _ => 0
 | f + 1, n => n % 2 + pcN f (n / 2)
theorem pc_bN : ∀ (l : List Bool) (f : Nat), l.length ≤ f → pcN f (bN l) = l.count true
 | [], f, _ => by
  have : ∀ f, pcN f 0 = 0 := fun f => by
   induction f with
   | zero => rfl
   | succ f ih => unfold pcN; simpa using ih
  exact this f
 | b :: l, 0, h => by simp at h
 | b :: l, f + 1, h => by
  have ih := pc_bN l f (by simpa using h)
  unfold pcN bN
  rw [List.count_cons, ← ih]
  cases b
  ·simp
  ·simp only [if_true, beq_self_eq_true]
   rw [show (1 + 2 * bN l) % 2 = 1 from Nat.add_mul_mod_self_left 1 2 _, show (1 + 2 * bN l) / 2 = bN l from (Nat.add_mul_div_left 1 _ Nat.two_pos).trans (Nat.zero_add _)]; exact Nat.add_comm _ _
noncomputable def ddN : List Nat → List Nat
 | [] => []
 | x :: xs => if xs.any (fun y => Nat.beq y x) then ddN xs else x :: ddN xs
theorem dd_mem : ∀ (l : List Nat) (x : Nat), x ∈ ddN l ↔ x ∈ l := by
 intro l
 induction l with
 | nil =>
  intro x
  exact Iff.rfl
 | cons y l ih =>
  intro x
  unfold ddN
  split
  ·rename_i h
   rw [ih x, List.mem_cons]
   constructor
   ·exact .inr
   ·rintro (rfl | h')
    ·(refine x1_2 (List.any_eq_true.mp h) ?_; intro z hz e)
     rw [← Nat.eq_of_beq_eq_true e]; exact hz
    ·exact h'
  ·rw [List.mem_cons, ih x, List.mem_cons]
theorem zcV : ∀ l : List Nat, (ddN l).Nodup
 | [] => List.nodup_nil
 | y :: l => by
  unfold ddN
  split
  ·exact zcV l
  ·rename_i h
   refine List.nodup_cons.mpr ⟨fun hm => h ?_, zcV l⟩
   exact List.any_eq_true.mpr ⟨y, (dd_mem l y).mp hm, Nat.beq_refl y⟩
theorem ze3 : ∀ (l acc : List PySem.Str), acc.Nodup → (l.foldl addK acc).Nodup := by
 intro l
 induction l with
 | nil =>
  intro acc h
  exact h
 | cons x l ih =>
  intro acc h
  rw [List.foldl_cons]
  refine ih _ ?_
  unfold addK
  split
  ·exact h
  ·rename_i hx
   rw [List.nodup_append]
   exact ⟨h, by simp, fun a ha b hb e => hx (by rw [List.mem_singleton] at hb; rw [← hb, ← e]; exact ha)⟩
theorem zhy : ∀ (l acc : List PySem.Str) (x : PySem.Str), x ∈ acc ∨ x ∈ l → x ∈ l.foldl addK acc := by
 intro l
 induction l with
 | nil =>
  intro acc x h
  exact h.resolve_right (by simp)
 | cons y l ih =>
  intro acc x h
  rw [List.foldl_cons]
  refine ih _ x ?_
  unfold addK
  rcases h with h | h
  ·left; split
   ·exact h
   ·exact List.mem_append_left _ h
  ·rcases List.mem_cons.mp h with rfl | h
   ·left; split
    ·assumption
    ·simp
   ·exact .inr h
theorem zeW {α β : Type} {f : α → β} : ∀ l : List α, (∀ x ∈ l, ∀ y ∈ l, f x = f y → x = y) → l.Nodup → (l.map f).Nodup
 | [], _, _ => List.nodup_nil
 | a :: l, h, hn => by
  rw [List.nodup_cons] at hn
  rw [List.map_cons, List.nodup_cons]
  refine ⟨fun hm => ?_, zeW l (fun x hx y hy => h x (.tail _ hx) y (.tail _ hy)) hn.2⟩
  (refine x1_2 (List.mem_map.mp hm) ?_; intro b hb e)
  exact hn.1 (h b (.tail _ hb) a (.head _) e ▸ hb)
noncomputable def codeS (x : PySem.Str) : Nat := bN (x.cps.toList.map (· == 98))
theorem zbs (l : List Bool) : codeS (encS l) = bN l := by
 unfold codeS
 rw [zeP, List.map_map]
 congr 1
 induction l with
 | nil => rfl
 | cons b l ih => rw [List.map_cons, ih]; cases b <;> rfl
noncomputable def kB (ps : List (Nat × Nat)) (o : List Nat) : List Bool := ps.map fun q => Nat.blt (o.getD q.2 0) (o.getD q.1 0)
theorem zhb (ps : List (Nat × Nat)) (o : List Nat) : kindS ps (o.map fun k : Nat => (k : Int)) = encS (kB ps o) := by
 unfold kindS encS kB
 rw [List.map_map]
 congr 1
 refine List.map_congr_left fun q _ => ?_
 show abS _ = abS _
 congr 1
 have hg : ∀ i, (o.map fun k : Nat => (k : Int)).getD i 0 = ((o.getD i 0 : Nat) : Int) := fun i => by
  rw [List.getD_eq_getElem?_getD, List.getD_eq_getElem?_getD, List.getElem?_map]
  cases o[i]? <;> rfl
 rw [hg, hg, Bool.eq_iff_iff, decide_eq_true_eq, Nat.blt_eq]
 ktn_no "o4"
theorem cnt_ok (ps : List (Nat × Nat)) (o : List Int) : ∃ j : Nat, cntB (kindS ps o) = (j : Nat) ∧ j < ps.length + 1 := by
 have e : kindS ps o = encS (ps.map fun q => decide (o.getD q.1 0 > o.getD q.2 0)) := by
  unfold kindS encS
  rw [List.map_map]; rfl
 refine ⟨_, by rw [e, zeL], ?_⟩
 have := List.count_le_length (a := true) (l := ps.map fun q => decide (o.getD q.1 0 > o.getD q.2 0))
 rw [List.length_map] at this
 ktn_no "o4"
noncomputable def kindsN (ps : List (Nat × Nat)) : List Int :=
 (List.range (ps.length + 1)).map fun j => (((ddN (ordN.map fun o => bN (kB ps o))).countP fun c => Nat.beq (pcN 10 c) j : Nat) : Int)
theorem zfS {ps : List (Nat × Nat)} (hp : ps.length ≤ 10) (os : List (List Nat)) (j : Nat) : (((os.map fun o => encS (kB ps o)).foldl addK []).countP fun x => cntB x == (j : Int)) = (ddN (os.map fun o => bN (kB ps o))).countP fun c => Nat.beq (pcN 10 c) j := by
 generalize hD : (os.map fun o => encS (kB ps o)).foldl addK [] = D
 have hmem : ∀ x, x ∈ D ↔ ∃ o ∈ os, x = encS (kB ps o) := fun x => by
  rw [← hD]
  constructor
  ·intro h
   rcases zeS _ _ h with h | h
   ·cases h
   ·(refine x1_2 (List.mem_map.mp h) ?_; intro o ho e)
    exact ⟨o, ho, e.symm⟩
  ·rintro ⟨o, ho, rfl⟩
   exact zhy _ _ _ (.inr (List.mem_map.mpr ⟨o, ho, rfl⟩))
 have hlen : ∀ o, (kB ps o).length = ps.length := fun o => by simp [kB]
 have hnd : (D.map codeS).Nodup := by
  refine zeW D (fun x hx y hy e => ?_) (by rw [← hD]; exact ze3 _ _ List.nodup_nil)
  (refine x1_2 ((hmem x).mp hx) ?_; intro o _ eqX2; subst eqX2)
  (refine x1_2 ((hmem y).mp hy) ?_; intro o' _ eqX2; subst eqX2)
  rw [zbs, zbs] at e
  rw [bN_inj _ _ (by rw [hlen, hlen]) e]
 have hperm : (D.map codeS).Perm (ddN (os.map fun o => bN (kB ps o))) := by
  rw [List.perm_ext_iff_of_nodup hnd (zcV _)]
  intro c
  rw [dd_mem, List.mem_map, List.mem_map]
  constructor
  ·rintro ⟨x, hx, rfl⟩
   (refine x1_2 ((hmem x).mp hx) ?_; intro o ho eqX2; subst eqX2)
   exact ⟨o, ho, (zbs _).symm⟩
  ·rintro ⟨o, ho, rfl⟩
   exact ⟨encS (kB ps o), (hmem _).mpr ⟨o, ho, rfl⟩, zbs _⟩
 rw [← hperm.countP_eq, List.countP_map]
 refine List.countP_congr fun x hx => ?_
 (refine x1_2 ((hmem x).mp hx) ?_; intro o _ eqX2; subst eqX2)
 show (cntB (encS (kB ps o)) == (j : Int)) = true ↔ Nat.beq (pcN 10 (codeS (encS (kB ps o)))) j = true
 rw [zeL, zbs, pc_bN _ _ (by rw [hlen]; exact hp), beq_iff_eq, Nat.beq_eq]
 ktn_no "o4"
theorem zhr {ps : List (Nat × Nat)} (hp : ps.length ≤ 10) : kindsF ps = kindsN ps := by
 have hS : (ordersF 5).map (kindS ps) = ordN.map fun o => encS (kB ps o) := by
  rw [ord_eq, List.map_map]
  exact List.map_congr_left fun o _ => zhb ps o
 unfold kindsF countsF kindsN
 rw [hS]
 exact List.map_congr_left fun j _ => congrArg Int.ofNat (zfS hp ordN j)
noncomputable def toksR (is r : List Nat) : Tks := ((List.range 5).flatMap fun p => List.replicate (r.count p) none ++ [some (is.getD p 0)]) ++ List.replicate (r.count 5) none
noncomputable def shpR (r : List Nat) : List Bool := ((List.range 5).flatMap fun p => List.replicate (r.count p) false ++ [true]) ++ List.replicate (r.count 5) false
theorem zeV {α β : Type} {l : List α} {f g : α → List β} (h : ∀ a ∈ l, f a = g a) : l.flatMap f = l.flatMap g := by
 rw [List.flatMap_def, List.flatMap_def, List.map_congr_left h]
theorem zbM (is r : List Nat) : shp (toksR is r) = shpR r := by
 unfold shp toksR shpR
 rw [List.map_append, List.map_flatMap, List.map_replicate]
 congr 1
 refine zeV fun p _ => ?_
 rw [List.map_append, List.map_replicate]; rfl
theorem zcu (r : List Nat) (p : Nat) : (r.map fun k : Nat => (k : Int)).count ((p : Nat) : Int) = r.count p := by
 induction r with
 | nil => rfl
 | cons a r ih =>
  rw [List.map_cons, List.count_cons, List.count_cons, ih]
  congr 1
  by_cases h : a = p
  ·subst h; simp
  ·rw [if_neg (by simp; ktn_no "o4"), if_neg (by simp; ktn_no "o4")]
theorem zg9 : ∀ i, i ≤ 4 → (hideS.getD i default).cps.toList = labL false i := by decide
theorem zdV (b : Bool) (x y : Tks) : txT b (x ++ y) = txT b x ++ txT b y := by simp [txT]
theorem zfK (b : Bool) (n : Nat) : txT b (List.replicate n none) = List.replicate n 41 := by
 induction n with
 | zero => rfl
 | succ n ih => rw [List.replicate_succ, List.replicate_succ, ← ih]; rfl
theorem mul_cl (n : Nat) : (Txt.mul cCl (n : Nat)).cps.toList = List.replicate n 41 := by
 rw [show cCl = (⟨#[41]⟩ : PySem.Str) by decide, mul_one_list]
 simp
theorem zcn {is r : List Nat} (hi : is.length = 5) (h4 : ∀ i ∈ is, i ≤ 4) : textF (r.map fun k : Nat => (k : Int)) (is.map fun i => hideS.getD i default) = ⟨(txT false (toksR is r)).toArray⟩ := by
 have key : ∀ (l : List Nat) (t : PySem.Str), (∀ p ∈ l, p < 5) → (l.foldl (fun t p => queueGo (r.map fun k : Nat => (k : Int)) (is.map fun i => hideS.getD i default) p t) t).cps.toList = t.cps.toList ++ txT false (l.flatMap fun p => List.replicate (r.count p) none ++ [some (is.getD p 0)]) := by
  intro l
  induction l with
  | nil => intro t _; simp [txT]
  | cons p l ih =>
   intro t hl
   have hp : p < is.length := by rw [hi]; exact hl p (.head _)
   rw [List.foldl_cons, ih _ fun q hq => hl q (.tail _ hq), List.flatMap_cons, zdV, zdV, zfK]
   have e1 : (is.map fun i => hideS.getD i default).getD p default = hideS.getD is[p] default := by
    rw [List.getD_eq_getElem?_getD, List.getElem?_map, List.getElem?_eq_getElem hp]; rfl
   have e2 : is.getD p 0 = is[p] := by rw [List.getD_eq_getElem?_getD, List.getElem?_eq_getElem hp]; rfl
   unfold queueGo
   rw [Str.cps_append, Str.cps_append, Str.cps_append, zcu, e1, e2]
   simp only [Array.toList_append]
   rw [mul_cl, zg9 _ (h4 _ (List.getElem_mem hp)), show cOp.cps.toList = [40] by decide]
   simp [txT, tkL]
 refine zar ?_
 unfold textF toksR
 rw [Str.cps_append, Array.toList_append, key _ _ fun p hp => List.mem_range.mp hp, zdV, zfK]
 have := zcu r 5
 rw [show ((5 : Nat) : Int) = (5 : Int) from rfl] at this
 rw [this, mul_cl, show e0.cps.toList = [] by decide]
 simp
noncomputable def CR (r : List Nat) (a b : Nat) : Bool := decide (b < r.getD a 0)
noncomputable def prsN (r : List Nat) : List (Nat × Nat) := (List.range 5).flatMap fun a => ((List.range (4 - a)).filter fun k => CR r a (a + 1 + k)).map fun k => (a, a + 1 + k)
theorem prs_eq (r : List Nat) : natP (prsN r) = allPairs (CR r) 5 := by
 unfold natP prsN allPairs pairs2
 rw [List.map_flatMap]
 refine zeV fun a _ => ?_
 rw [List.map_map]
 rfl
noncomputable def okC (r : List Nat) : Bool :=
 match dotsZ (shpR r), dotsZ (shpR (backR r)) with
 | some dn, some dm => balGo (shpR r) 0 && (balGo (shpR (backR r)) 0 && (dn.all (fun d => decide (1 ≤ d) && decide (d ≤ 100)) && (decide (dn.length ≤ 50) && (dn.isPerm dm && (decide ((prsN r).length ≤ 10) && ((prsN r).all (fun q => decide (q.1 < 5) && decide (q.2 < 5)) && decide (waysF dn = kindsN (prsN r))))))))
 | _, _ => false
theorem ok_all : (cls 5 0).all okC = true := by decide +kernel
structure PlainOk (x y : PySem.Str) (dn r : List Nat) : Prop where
 cx : checkF x = true
 cy : checkF y = true
 fx : DotsFine x
 fy : DotsFine y
 dx : dotsF x = dn.map fun d : Nat => (d : Int)
 d1 : ∀ d ∈ dn, 1 ≤ d ∧ d ≤ 100
 dl : dn.length ≤ 50
 pm : (dn.map fun d : Nat => (d : Int)).Perm (dotsF y)
 pl : (prsN r).length ≤ 10
 p5 : ∀ q ∈ prsN r, q.1 < 5 ∧ q.2 < 5
 wk : waysF dn = kindsF (prsN r)
theorem zgq : ∀ r ∈ cls 5 0, (toksR [] r).length ≤ 20 ∧ (toksR [] (backR r)).length ≤ 20 := by decide +kernel
theorem zeK (is r : List Nat) : (toksR is r).length = (toksR [] r).length := by
 have h1 := congrArg List.length (zbM is r)
 have h2 := congrArg List.length (zbM [] r)
 unfold shp at h1 h2
 rw [List.length_map] at h1 h2
 ktn_no "o4"
theorem zel {is is' r : List Nat} (hr : r ∈ cls 5 0) : ∃ dn, PlainOk ⟨(txT false (toksR is r)).toArray⟩ ⟨(txT false (toksR is' (backR r))).toArray⟩ dn r := by
 have hok := List.all_eq_true.mp ok_all r hr
 obtain ⟨l1, l2⟩ := zgq r hr
 rw [← zeK is] at l1
 rw [← zeK is'] at l2
 unfold okC at hok
 cases h1 : dotsZ (shpR r) with
 | none => rw [h1] at hok; simp at hok
 | some dn =>
  cases h2 : dotsZ (shpR (backR r)) with
  | none => rw [h1, h2] at hok; simp at hok
  | some dm =>
   rw [h1, h2] at hok
   dsimp only at hok
   simp only [Bool.and_eq_true, decide_eq_true_eq, List.all_eq_true] at hok
   obtain ⟨b1, b2, b3, b4, b5, b6, b7, b8⟩ := hok
   rw [← zbM is] at h1 b1
   rw [← zbM is'] at h2 b2
   obtain ⟨f1, e1⟩ := zeM l1 h1
   obtain ⟨f2, e2⟩ := zeM l2 h2
   refine ⟨dn, zdG _ b1, zdG _ b2, f1, f2, e1, b3, b4, ?_, b6, b7, ?_⟩
   ·rw [e2]; exact (List.isPerm_iff.mp b5).map _
   ·rw [b8, zhr b6]
theorem zgA {ks is : List Nat} {W : Int} (hk : ks.length = 5) (hi : is.length = 5) (h4 : ∀ i ∈ is, i ≤ 4) :
  ∃ dn, PlainOk (textF ((List.range 5).map (reachF W (ks.map wordS))) (is.map fun i => hideS.getD i default)) (textF ((List.range 5).map (reachF W (ks.map wordS).reverse)) (is.map fun i => hideS.getD i default).reverse) dn (rL W ks) := by
 have hk' : ks.reverse.length = 5 := by simpa using hk
 have hi' : is.reverse.length = 5 := by simpa using hi
 rw [← List.map_reverse, ← List.map_reverse, zeG hk, zeG hk', back_rL hk, zcn hi h4, zcn hi' fun i h => h4 i (List.mem_reverse.mp h)]
 exact zel (rL_cls hk)
theorem fits_CR {ks : List Nat} {W : Int} (hk : ks.length = 5) {ss : List Int} (hs : ss = ks.map fun k => ((k + 1 : Nat) : Int)) (a b : Nat) (hab : a < b) (hb : b < 5) : decide (((ss.drop a).take (b + 1 - a)).sum ≤ W) = CR (rL W ks) a b := by
 subst hs
 have h := rN_iff (W := W) (ks := ks) (p := a) (q := b) hab (by ktn_no "om")
 unfold CR
 rw [rL_get (by ktn_no "om")]
 by_cases c : b < rN W ks a
 ·rw [decide_eq_true c]; exact decide_eq_true (h.mp c)
 ·rw [decide_eq_false c]; exact decide_eq_false fun z => c (h.mpr z)
theorem body_is : body_law = [lawSt 0, lawSt 1, lawSt 2, lawSt 3, lawSt 4, lawSt 5, lawSt 6, lawSt 7, lawSt 8, lawSt 9, lawSt 10, lawSt 11] := by kernel_rfl
section
variable {w : World} {A : Around} {E : Value → Shared → Prop} {Q : Value → Shared → Prop} {s₁ : Shared} {n : Nat}
theorem zhR {sa : Addr} (R : Room (n + 71) A) (W : WfB w (hideAll s₁.heap [T1, T2])) (tb : TabOk s₁.heap) (hsz : szTop ≤ s₁.heap.objs.size) (X : (KF w.params).In s₁.heap) (hnl : s₁.heap.NoLimit)
  (h : ∀ L s₂, Fm w (hideAll s₁.heap [T1, T2]) L (envLaw L).cells s₁ (bindL (envLaw L).kindOf [("script", .ref sa)] fun _ => none) (bindC (envLaw L).kindOf [("script", .ref sa)] fun _ => none) [] s₂ → OwnC (hideAll s₁.heap [T1, T2]) (envLaw L).cells → Room (n + 70) (A.deeper (envLaw L)) →
   wpAny (M w) (A.deeper (envLaw L)) (execs body_law (envLaw L)) (fun fl s' => Q (retV fl) s') (fun _ _ => False) s₂) :
  wpAny (M w) A (call (.ref a_law) [.ref sa] []) Q E s₁ := by
 refine wpAny_call (codeAny_call_cells (fd := fd_law) (body := body_law) (binds := [("script", .ref sa)]) R.lt (X _ _ (lk_law _)) rfl hnl (codeRec_of X (cd_law _)) rfl (by rfl) rfl (fun x hx => ?_) (fun s₂ I => ?_) rfl rfl rfl)
 ·have hk : ∀ z, ([("script", Value.ref sa)] : List (PySem.Str × Value)).all (fun x => decide (fd_law.scope.names.lookup x.1 = some .local) || (decide (fd_law.scope.names.lookup x.1 = some .cell) && ((cellsFrom z fd_law.scope.names []).lookup x.1).isSome)) = true := fun z => by kernel_rfl
  have := List.all_eq_true.mp (hk (s₁.heap.objs.size + 1)) x hx
  rw [Bool.or_eq_true, Bool.and_eq_true, decide_eq_true_eq, decide_eq_true_eq] at this
  exact this
 have IC := I.toInCall
 (refine x2_1 (IC.same) ?_; intro h₁ tk eqX2; subst eqX2)
 have hz : s₁.heap.objs.size < h₁.objs.size := IC.ns.lt
 have hnone : ∀ c, s₁.heap.objs.size ≤ c → (hideAll s₁.heap [T1, T2]).get? c = none := fun c hc => by
  cases q : (hideAll s₁.heap [T1, T2]).get? c with
  | none => rfl
  | some o => exact absurd (Heap.lt_size q) (by rw [hideAll_size]; exact Nat.not_lt.mpr hc)
 have hab : ∀ nm c, (envLaw s₁.heap.objs.size).cells.lookup nm = some c → s₁.heap.objs.size < c := fun nm c e => I.above nm c (mem_of_lookup e)
 have F₀ : Fm w (hideAll s₁.heap [T1, T2]) s₁.heap.objs.size (envLaw s₁.heap.objs.size).cells s₁ (bindL (envLaw s₁.heap.objs.size).kindOf [("script", .ref sa)] fun _ => none) (bindC (envLaw s₁.heap.objs.size).kindOf [("script", .ref sa)] fun _ => none) [] { s₁ with heap := h₁, toks := tk } := {
  wf := W
  ns := IC.ns
  keep := fun b o e => IC.keep b o (of_hideAll _ e)
  above := ⟨hnone _ (Nat.le_refl _), hsz⟩
  nw := fun p hp => by cases hp
  nd := List.nodup_nil
  ce := I.cell
  cd := fun nm c e => ⟨Nat.ne_of_gt (hab nm c e), (fun q => by cases q), fun t => absurd (tab_lt t) (Nat.not_lt.mpr (Nat.le_trans hsz (Nat.le_of_lt (hab nm c e))))⟩
  cp := fun n n' c e e' => name_of_addr I.apart (mem_of_lookup e) (mem_of_lookup e')
  tb := tb.keeps IC.keep
  rl := ⟨rfl, fun _ _ e => e, id, fun t _ ps e => ⟨#[], by simpa using IC.keep _ _ e⟩, trivial⟩ }
 refine wpAny_mono (h s₁.heap.objs.size _ F₀ (fun nm c e => ⟨hnone c (Nat.le_of_lt (hab nm c e)), Nat.le_trans hsz (Nat.le_of_lt (hab nm c e))⟩) R.deeper) (fun fl s' hb => ?_) (fun _ _ x => x.elim)
 cases fl <;> exact hb
end
section
variable {w : World} {A : Around} {E : Value → Shared → Prop} {Q : Value → Shared → Prop} {s₁ : Shared} {n : Nat}
theorem zhT : ∀ i, i ≤ 4 → (hideS.getD i default).length ≤ 10 := by decide
theorem law_run {sa : Addr} {vs : List Value} {ns : List Int} (R : Room (n + 71) A) (W : WfB w (hideAll s₁.heap [T1, T2])) (tb : TabOk s₁.heap) (hsz : szTop ≤ s₁.heap.objs.size) (X : (KF w.params).In s₁.heap) (hnl : s₁.heap.NoLimit)
  (hB : (hideAll s₁.heap [T1, T2]).IsList sa vs.toArray) (hI : IntsAre vs ns) (h63 : ns.length ≤ 63)
  (h : ∀ L m cl cm rest s', Fm w (hideAll s₁.heap [T1, T2]) L cl s₁ m cm rest s' → Q (.bool true) s') : wpAny (M w) A (call (.ref a_law) [.ref sa] []) Q E s₁ := by
 refine zhR R W tb hsz X hnl fun L s₂ F HC R => ?_
 rw [body_is]
 have m1 : bindL (envLaw L).kindOf [("script", .ref sa)] (fun _ => none) "script" = some (.ref sa) := by kernel_rfl
 revert F
 generalize bindL (envLaw L).kindOf [("script", .ref sa)] (fun _ => none) = m at m1 ⊢
 generalize bindC (envLaw L).kindOf [("script", .ref sa)] (fun _ => none) = cm
 intro F
 have lv := hI.length
 refine wpAny_execs_cons (law_0 (n := n + 50) R F HC hB hI (by ktn_no "om") m1 fun D₀ cs k₀ s' hc1 hc2 F₁ => ?_)
 clear F
 refine wpAny_execs_cons (law_1 (n := n + 50) R F₁ HC (.head _) hc1 (fun c hc => (hc2 c hc).1) rfl fun N₀ nums k₁ s' hn1 hn2 F₂ => ?_)
 clear F₁
 refine wpAny_execs_cons (law_2 (n := n + 50) R F₂ HC (N := N₀) (ns := nums) (k := k₁) (.head _) hn1 hn2 rfl fun Wa ws kw tw ks wd s' hk hk4 hws hwd F₃ => ?_)
 clear F₂
 refine wpAny_execs_cons (law_3 (n := n + 50) R F₃ HC fun H hs kH s' hhs F₄ => ?_)
 clear F₃
 refine wpAny_execs_cons (law_4 (n := n + 50) R F₄ HC (N := N₀) (ns := nums) (k := k₁) (H := H) (hs := hs) (kH := kH) (.tail _ (.tail _ (.head _))) hn1 hn2 (.head _) hhs rfl rfl fun Ma ms kM is s' hi hi4 hms F₅ => ?_)
 clear F₄
 obtain ⟨hwo, hwl⟩ := word_ok hws hk4
 have hwn : ws.length = 5 := by have := congrArg List.length hws; simp at this; ktn_no "o4"
 have hmn : ms.length = 5 := by have := congrArg List.length hms; simp at this; ktn_no "o4"
 have hml : ∀ y ∈ ms, y.1.length ≤ 10 := fun y hy => by
  have : y.1 ∈ is.map fun i => hideS.getD i default := by rw [← hms]; exact List.mem_map_of_mem hy
  (refine x1_2 (List.mem_map.mp this) ?_; intro i hi' e)
  rw [← e]; exact zhT i (hi4 i hi')
 refine wpAny_execs_cons (law_5 (n := n) R F₅ HC (W := Wa) (Ma := Ma) (us := ws) (ms := ms) (kW := kw) (kM := kM) hwo hwl hwn (.tail _ (.tail _ (.head _))) hmn hml (.head _) rfl rfl rfl fun t u s' F₆ => ?_)
 clear F₅
 obtain ⟨dn, P⟩ := zgA (ks := ks) (is := is) (W := ((3 + wd : Nat) : Int)) hk hi hi4
 rw [← hws, ← hms, ← List.map_reverse, ← List.map_reverse] at P
 revert P F₆
 generalize textF ((List.range 5).map (reachF ((3 + wd : Nat) : Int) (ws.map (·.1)))) (ms.map (·.1)) = x
 generalize textF ((List.range 5).map (reachF ((3 + wd : Nat) : Int) (ws.reverse.map (·.1)))) (ms.reverse.map (·.1)) = y
 intro F₆ P
 refine wpAny_execs_cons (law_6 (n := n) R F₆ (x := x) (y := y) (t := t) (u := u) rfl rfl P.fx.so P.fx.asc P.cx P.fy.so P.fy.asc P.cy fun s' F₇ => ?_)
 clear F₆
 refine wpAny_execs_cons (law_7 (n := n) R F₇ HC (W := Wa) (ws := ws) (k := kw) (x := x) (tx := t) (.tail _ (.tail _ (.head _))) (by ktn_no "om") (fun y hy => Nat.le_trans (hwl y hy) (by decide)) rfl rfl P.fx fun Dd ds kd S ss kS s' hds hss F₈ => ?_)
 clear F₇
 have hss' : ss.map (·.1) = ks.map fun k => ((k + 1 : Nat) : Int) := by
  have e : ws.map (fun y => (y.1.length : Int)) = (ws.map (·.1)).map fun v => (v.length : Int) := by rw [List.map_map]; rfl
  rw [hss, e, hws, List.map_map]
  exact List.map_congr_left fun k _ => by show ((wordS k).length : Int) = _; rw [zaR]
 have hsl : ss.length = 5 := by have := congrArg List.length hss'; simp at this; ktn_no "o4"
 refine wpAny_execs_cons (law_8 (n := n) R F₈ HC (S := S) (ss := ss) (k1 := kS) (W := ((3 + wd : Nat) : Int)) (tW := tw) (C := CR (rL ((3 + wd : Nat) : Int) ks)) (.head _) hsl (fun a b hab hb => fits_CR hk hss' a b hab hb) rfl rfl fun Sh vS lS kSh s' hP F₉ => ?_)
 clear F₈
 rw [← prs_eq] at hP
 refine wpAny_execs_cons (law_9 (n := n + 50) R F₉ HC fun V ys kV s' hy F₁₀ => ?_)
 clear F₉
 rw [P.dx] at hds
 refine wpAny_execs_cons (law_10 (n := n + 40) R F₁₀ HC (Dd := Dd) (V := V) (ds := ds) (ys := ys) (dn := dn) (kd := kd) (kV := kV) hds P.d1 P.dl (by repeat first | exact .head _ | refine .tail _ ?_ | refine List.mem_append_right _ ?_) hy rfl rfl fun m' cm' V' ys' kV' s' hy' cv hcm hmm F₁₁ => ?_)
 clear F₁₀
 have hdl : ds.length ≤ 50 := by have := congrArg List.length hds; simp at this; have := P.dl; ktn_no "o4"
 refine wpAny_execs_cons (law_11 (n := n) R F₁₁ (V := V') (Dd := Dd) (sa := Sh) (ds := ds) (ys := ys') (kd := kd) (kV := kV') (kS := kSh) (y := y) (ty := u) (vS := vS) (lS := lS) (ps := prsN (rL ((3 + wd : Nat) : Int) ks)) (.head _) (by repeat first | exact .head _ | refine .tail _ ?_ | refine List.mem_append_right _ ?_) hP P.pl P.p5 (by repeat first | exact .head _ | refine .tail _ ?_ | refine List.mem_append_right _ ?_) (fun p hp => by first | exact .tail _ (List.mem_append_left _ hp) | exact .tail _ (.tail _ (List.mem_append_left _ hp)) | exact .tail _ (.tail _ (.tail _ (List.mem_append_left _ hp)))) (cnt_ok _) (hy'.trans P.wk) P.fy hdl (by rw [hds]; exact P.pm) ((hmm _).trans rfl) ((hmm _).trans rfl) ((hmm _).trans rfl) cv fun rest' s' F₁₂ => ?_)
 exact h _ _ _ _ _ _ F₁₂
end
theorem kf_of {w : World} {s : Shared} (Y : obsv s = valv w) : (KF w.params).In s.heap ∧ s.heap.objs.size = szTop ∧ tabsIn s = true := by
 have h := Y
 unfold obsv valv at h
 simp only [Prod.mk.injEq] at h
 (refine x0_3 (h) ?_; try clear h; intro h1 h2 h3)
 refine ⟨fun a o e => ?_, h2, h3⟩
 have hk : (KF w.params).map (·.1) = kAddrs := by kernel_rfl
 rw [← hk, List.map_map] at h1
 have key : ∀ l : Frag, l.map (s.heap.get? ∘ (·.1)) = l.map (fun p => some p.2) → ∀ a o, l.lookup a = some o → s.heap.get? a = some o := fun l => by
  induction l with
  | nil => intro _ a o e; cases e
  | cons p l ih =>
   intro hh a o e
   obtain ⟨x, y⟩ := p
   simp only [List.map_cons, List.cons.injEq] at hh
   rw [List.lookup_cons] at e
   cases hb : a == x with
   | true => rw [hb] at e; simp only at e; rw [beq_iff_eq.mp hb]; rw [← Option.some.inj e]; exact hh.1
   | false => rw [hb] at e; exact ih hh.2 a o e
 exact key _ h1 a o e
theorem tab_of {h : Heap} {t : Addr} (e : tabOne h t = true) : h.get? t = some (tableObj #[]) := by
 unfold tabOne at e
 cases hg : h.get? t with
 | none => rw [hg] at e; exact absurd e Bool.false_ne_true
 | some o =>
  rw [hg] at e
  obtain ⟨c, dct, dat, sl⟩ := o
  cases c with
  | none =>
   cases dct with
   | some _ => exact absurd e Bool.false_ne_true
   | none =>
    cases dat with
    | fields a =>
     have e : (a.size == 0 && sl.size == 0) = true := e
     rw [Bool.and_eq_true, beq_iff_eq, beq_iff_eq] at e
     rw [Array.eq_empty_of_size_eq_zero e.1, Array.eq_empty_of_size_eq_zero e.2]
     rfl
    | _ => exact absurd e Bool.false_ne_true
  | _ => exact absurd e Bool.false_ne_true
theorem tabs_of {s : Shared} (h : tabsIn s = true) : s.heap.get? T1 = some (tableObj #[]) ∧ s.heap.get? T2 = some (tableObj #[]) := by
 unfold tabsIn at h
 rw [Bool.and_eq_true] at h
 exact ⟨tab_of h.1, tab_of h.2⟩
section
variable {w : World} {h : Heap}
theorem tab_a (X : (KF w.params).In h) (e : h.get? T1 = some (tableObj #[])) : h.IsCode C1 T1 #[] ∧ h.TableAt C1 T1 #[] :=
 ⟨⟨_, _, _, _, _, _, _, _, _, _, X C1 _ (by ktn_no "k_ev"), by ktn_no "k_ev", by kernel_rfl, by ktn_no "k_ev", by ktn_no "k_ev", by ktn_no "k_ev", by ktn_no "k_ev", e, rfl, trivial, by decide⟩, ⟨⟨_, _, X C1 _ (by ktn_no "k_ev"), by kernel_rfl, by ktn_no "k_ev", by kernel_rfl⟩, e⟩⟩
theorem tab_b (X : (KF w.params).In h) (e : h.get? T2 = some (tableObj #[])) : h.IsCode C2 T2 #[] ∧ h.TableAt C2 T2 #[] :=
 ⟨⟨_, _, _, _, _, _, _, _, _, _, X C2 _ (by ktn_no "k_ev"), by ktn_no "k_ev", by kernel_rfl, by ktn_no "k_ev", by ktn_no "k_ev", by ktn_no "k_ev", by ktn_no "k_ev", e, rfl, trivial, by decide⟩, ⟨⟨_, _, X C2 _ (by ktn_no "k_ev"), by kernel_rfl, by ktn_no "k_ev", by kernel_rfl⟩, e⟩⟩
theorem hid {b : Addr} {o : Obj} (e : h.get? b = some o) (h1 : b ≠ T1) (h2 : b ≠ T2) : (hideAll h [T1, T2]).get? b = some o :=
 hideAll_get _ e fun q => by
  rcases List.mem_cons.mp q with q | q
  ·exact h1 q
  ·rcases List.mem_cons.mp q with q | q
   ·exact h2 q
   ·cases q
theorem wf_of {p : Program} {loose : List PySem.Str} {mean : ExcName → Option Value} {mg mb : PySem.Str → Option Value} (X : (KF w.params).In h) (T : Top p loose mean mg mb h) (e1 : h.get? T1 = some (tableObj #[])) (e2 : h.get? T2 = some (tableObj #[])) (hz : szTop ≤ h.objs.size) : WfB w (hideAll h [T1, T2]) where
 k := fun a o e => hid (X a o e) (fun q => by rw [q, show (KF w.params).lookup T1 = none by kernel_rfl] at e; cases e) (fun q => by rw [q, show (KF w.params).lookup T2 = none by kernel_rfl] at e; cases e)
 g := ⟨mg, T.g.at' fun o e => hid e (by decide) (by decide)⟩
 b := ⟨mb, T.b.at' fun o e => hid e (by decide) (by decide), T.builtins⟩
 nl := let ⟨mc, a, b⟩ := T.nolimit; ⟨mc, a.at' fun o e => hid e (by decide) (by decide), b⟩
 bm := by
  (refine x2_6 (T.bmain) ?_; intro bm ob a b c d e f)
  refine ⟨mg, bm, ob, T.g.at' fun o e => hid e (by decide) (by decide), a, b, hid c (fun q => ?_) (fun q => ?_), d, e, f⟩
  ·rw [q, e1] at c; rw [← Option.some.inj c] at d; cases d
  ·rw [q, e2] at c; rw [← Option.some.inj c] at d; cases d
 sz := by rw [hideAll_size]; exact hz
 t1 := hideAll_none _ (.head _)
 t2 := hideAll_none _ (.tail _ (.head _))
theorem old_of {L : Addr} {m : PySem.Str → Option Value} {cl : List (PySem.Str × Addr)} {cm : PySem.Str → Option Value} {rest : List (Addr × Obj)} {s₁ s' : Shared} (X : (KF w.params).In s₁.heap) (e1 : s₁.heap.get? T1 = some (tableObj #[])) (e2 : s₁.heap.get? T2 = some (tableObj #[]))
  (F : Fm w (hideAll s₁.heap [T1, T2]) L cl s₁ m cm rest s') : OldK s₁.heap s'.heap := by
 have key : ∀ b o, s₁.heap.get? b = some o → asItWas s₁.heap s'.heap b o ∧ ∃ o', s'.heap.get? b = some o' := fun b o e => by
  by_cases q1 : b = T1
  ·subst q1
   rw [e1] at e
   obtain ⟨more, hm⟩ := F.rl.tg _ (.inl rfl) _ e1
   rw [← Option.some.inj e]
   exact ⟨.inr (.inl ⟨(tab_a X e1).2.isCodeTable, rfl, #[], more, rfl, hm⟩), _, hm⟩
  ·by_cases q2 : b = T2
   ·subst q2
    rw [e2] at e
    obtain ⟨more, hm⟩ := F.rl.tg _ (.inr rfl) _ e2
    rw [← Option.some.inj e]
    exact ⟨.inr (.inl ⟨(tab_b X e2).2.isCodeTable, rfl, #[], more, rfl, hm⟩), _, hm⟩
   ·have := F.keep b o (hid e q1 q2)
    exact ⟨.inl this, _, this⟩
 exact ⟨fun b o e => (key b o e).1, fun b o e => (key b o e).2⟩
end
theorem zeh : Room (0 + 71) callerA := ⟨rfl, by decide, by decide, ⟨[], rfl⟩⟩
end Mine
open PySem PySem.W PySem.W.X PySem.Calls PyProof.Rows Mine
theorem PySem.Challenge.cw_tc0024_03_holds : PySem.Challenge.rw_tc0024_03.Holds := by
 refine holds_law (by kernel_rfl) fun said => ?_
 refine holds_openX (q := qv) (loose := lz) (Xt := fun s => xlAt qv [] s && recOk (RowW.records (OpenRow.toRowW (OpenLaw.row PySem.Challenge.rw_tc0024_03))) s) (XP := XL qv []) (Yf := obsv) (Ya := valv) (N := 4000) left (fun s e => xl_of s (Bool.and_eq_true_iff.mp e).1) XL.keeps (by rfl) (by rfl) (by rfl) (fun s e => recFacts_of (Bool.and_eq_true_iff.mp e).2) (by rfl) (by first | assumption | decide +kernel) (by decide +kernel) ⟨rfl, rfl, rfl, rfl, rfl, by decide +kernel⟩ ?hw ?hc
 case hw => exact ⟨[.list []], by decide +kernel, by decide +kernel⟩
 case hc =>
  intro w s₀ s₁ mg mb G Y fa o pm cd doc dV kV ho hd hcd hD hmg hg args vals as L hpre hlay hrd hwl hlo
  refine Ground.open G ?_
  intro T B D TE TW
  wrow_args hpre hlay hrd hwl hlo
  rename_i xs _ _ _ _ _ _ _ sa vs _ hl _ _ _ hI _ hlen _
  obtain ⟨K₀, z₀, tb₀⟩ := kf_of Y
  obtain ⟨t1, t2⟩ := tabs_of tb₀
  have K₁ := K₀.keeps L.keeps
  have e1 := L.keeps _ _ t1
  have e2 := L.keeps _ _ t2
  have hz : szTop ≤ s₁.heap.objs.size := Heap.lt_size (K₁ _ _ (lk_law _))
  have hfa : mg "law" = some (.ref a_law) := mg_of K₁ T.g (by kernel_rfl)
  have hfe : fa = a_law := by
   have : some (Value.ref fa) = some (Value.ref a_law) := hmg.symm.trans hfa
   exact Value.ref.inj (Option.some.inj this)
  subst hfe
  have W := wf_of K₁ T e1 e2 hz
  have tb : TabOk s₁.heap := ⟨⟨_, tab_a K₁ e1⟩, ⟨_, tab_b K₁ e2⟩⟩
  have hB : (hideAll s₁.heap [T1, T2]).IsList sa vs.toArray := by
   obtain ⟨ol, hol, hoc, nn, hod⟩ := hl
   refine ⟨ol, hid hol (fun q => ?_) (fun q => ?_), hoc, nn, hod⟩
   ·rw [q, e1] at hol; rw [← Option.some.inj hol] at hoc; cases hoc
   ·rw [q, e2] at hol; rw [← Option.some.inj hol] at hoc; cases hoc
  refine law_run (n := 0) zeh W tb hz K₁ T.nolimit hB hI (by omega) fun L' m' cl' cm' rest' s' F => ?_
  refine ⟨.inl ⟨.bool true, .bool true, [], rfl, fun _ => by rfl, .bool true, by first | rfl | wrow_post, fun _ => ⟨List.nodup_nil, fun a ha => by cases ha⟩⟩, old_of K₁ e1 e2 F, F.rl.os, F.rl.bare ?_⟩
  intro x hx
  rw [L.gens] at hx
  simp at hx
