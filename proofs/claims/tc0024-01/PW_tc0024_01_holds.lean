import PyProof.Rows.All
import Wide.All
import OpenK.AllK
import Wide.FinOn
import PySem.Challenge.RW_tc0024_01
set_option Elab.async false
set_option maxRecDepth 100000
set_option maxHeartbeats 0
set_option linter.all false
set_option compiler.extract_closed false
namespace Mine
open PySem PySem.W PySem.Calls PyProof.Rows
noncomputable abbrev pw : Program := PySem.Challenge.pw_tc0024_01
noncomputable def stAt (i : Nat) : Stmt := pw.main.body.getD i (.Pass default)
noncomputable def bodyOf : Stmt → List Stmt
  | .FunctionDef _ _ b _ _ _ _ _ _ _ => b
  | .ClassDef _ _ _ b _ _ _ _ _ _ _ => b
  | _ => []
noncomputable def parOf : Stmt → Arguments
  | .FunctionDef _ a _ _ _ _ _ _ _ _ => a
  | _ => ⟨[], [], none, [], [], none, []⟩
noncomputable def scOf : Stmt → Scope
  | .FunctionDef _ _ _ _ _ _ s _ _ _ => s
  | _ => default
noncomputable def methAt (i j : Nat) : Stmt := (bodyOf (stAt i)).getD j (.Pass default)
noncomputable abbrev a_VF_dinit : Addr := 52
noncomputable def body_VF_dinit : List Stmt := (bodyOf (methAt 5 0))
noncomputable def fd_VF_dinit : FuncData := { name := (Str.ofString "__init__"), qualname := (Str.ofString "_ValueFormatter.__init__"), params := parOf (methAt 5 0), body := .stmts body_VF_dinit, scope := scOf (methAt 5 0), globals := 3, closure := [], defaults := .none, kwdefaults := .none, doc := .none, pyModule := .str (Str.ofString "cpy313.email.header") 289, annotations := none, code := .ref 51, closureTuple := .none, builtins := 0 }
noncomputable abbrev a_VF_str : Addr := 59
noncomputable def body_VF_str : List Stmt := (bodyOf (methAt 5 1))
noncomputable def fd_VF_str : FuncData := { name := (Str.ofString "_str"), qualname := (Str.ofString "_ValueFormatter._str"), params := parOf (methAt 5 1), body := .stmts body_VF_str, scope := scOf (methAt 5 1), globals := 3, closure := [], defaults := .none, kwdefaults := .none, doc := .none, pyModule := .str (Str.ofString "cpy313.email.header") 289, annotations := none, code := .ref 58, closureTuple := .none, builtins := 0 }
noncomputable abbrev a_VF_dstr : Addr := 66
noncomputable def body_VF_dstr : List Stmt := (bodyOf (methAt 5 2))
noncomputable def fd_VF_dstr : FuncData := { name := (Str.ofString "__str__"), qualname := (Str.ofString "_ValueFormatter.__str__"), params := parOf (methAt 5 2), body := .stmts body_VF_dstr, scope := scOf (methAt 5 2), globals := 3, closure := [], defaults := .none, kwdefaults := .none, doc := .none, pyModule := .str (Str.ofString "cpy313.email.header") 289, annotations := none, code := .ref 65, closureTuple := .none, builtins := 0 }
noncomputable abbrev a_VF_newline : Addr := 73
noncomputable def body_VF_newline : List Stmt := (bodyOf (methAt 5 3))
noncomputable def fd_VF_newline : FuncData := { name := (Str.ofString "newline"), qualname := (Str.ofString "_ValueFormatter.newline"), params := parOf (methAt 5 3), body := .stmts body_VF_newline, scope := scOf (methAt 5 3), globals := 3, closure := [], defaults := .none, kwdefaults := .none, doc := .none, pyModule := .str (Str.ofString "cpy313.email.header") 289, annotations := none, code := .ref 72, closureTuple := .none, builtins := 0 }
noncomputable abbrev a_VF_append_chunk : Addr := 108
noncomputable def body_VF_append_chunk : List Stmt := (bodyOf (methAt 5 8))
noncomputable def fd_VF_append_chunk : FuncData := { name := (Str.ofString "_append_chunk"), qualname := (Str.ofString "_ValueFormatter._append_chunk"), params := parOf (methAt 5 8), body := .stmts body_VF_append_chunk, scope := scOf (methAt 5 8), globals := 3, closure := [], defaults := .none, kwdefaults := .none, doc := .none, pyModule := .str (Str.ofString "cpy313.email.header") 289, annotations := none, code := .ref 107, closureTuple := .none, builtins := 0 }
noncomputable abbrev a_VF : Addr := 111
noncomputable abbrev a_VF_ns : Addr := 110
noncomputable abbrev a_Acc_dinit : Addr := 132
noncomputable def body_Acc_dinit : List Stmt := (bodyOf (methAt 6 0))
noncomputable def fd_Acc_dinit : FuncData := { name := (Str.ofString "__init__"), qualname := (Str.ofString "_Accumulator.__init__"), params := parOf (methAt 6 0), body := .stmts body_Acc_dinit, scope := scOf (methAt 6 0), globals := 3, closure := [((Str.ofString "__class__"), 119)], defaults := .ref 124, kwdefaults := .none, doc := .none, pyModule := .str (Str.ofString "cpy313.email.header") 289, annotations := none, code := .ref 131, closureTuple := .ref 125, builtins := 0 }
noncomputable abbrev a_Acc_push : Addr := 139
noncomputable def body_Acc_push : List Stmt := (bodyOf (methAt 6 1))
noncomputable def fd_Acc_push : FuncData := { name := (Str.ofString "push"), qualname := (Str.ofString "_Accumulator.push"), params := parOf (methAt 6 1), body := .stmts body_Acc_push, scope := scOf (methAt 6 1), globals := 3, closure := [], defaults := .none, kwdefaults := .none, doc := .none, pyModule := .str (Str.ofString "cpy313.email.header") 289, annotations := none, code := .ref 138, closureTuple := .none, builtins := 0 }
noncomputable abbrev a_Acc_pop_from : Addr := 147
noncomputable def body_Acc_pop_from : List Stmt := (bodyOf (methAt 6 2))
noncomputable def fd_Acc_pop_from : FuncData := { name := (Str.ofString "pop_from"), qualname := (Str.ofString "_Accumulator.pop_from"), params := parOf (methAt 6 2), body := .stmts body_Acc_pop_from, scope := scOf (methAt 6 2), globals := 3, closure := [], defaults := .ref 140, kwdefaults := .none, doc := .none, pyModule := .str (Str.ofString "cpy313.email.header") 289, annotations := none, code := .ref 146, closureTuple := .none, builtins := 0 }
noncomputable abbrev a_Acc_pop : Addr := 155
noncomputable def body_Acc_pop : List Stmt := (bodyOf (methAt 6 3))
noncomputable def fd_Acc_pop : FuncData := { name := (Str.ofString "pop"), qualname := (Str.ofString "_Accumulator.pop"), params := parOf (methAt 6 3), body := .stmts body_Acc_pop, scope := scOf (methAt 6 3), globals := 3, closure := [((Str.ofString "__class__"), 119)], defaults := .none, kwdefaults := .none, doc := .none, pyModule := .str (Str.ofString "cpy313.email.header") 289, annotations := none, code := .ref 154, closureTuple := .ref 148, builtins := 0 }
noncomputable abbrev a_Acc_dlen : Addr := 162
noncomputable def body_Acc_dlen : List Stmt := (bodyOf (methAt 6 4))
noncomputable def fd_Acc_dlen : FuncData := { name := (Str.ofString "__len__"), qualname := (Str.ofString "_Accumulator.__len__"), params := parOf (methAt 6 4), body := .stmts body_Acc_dlen, scope := scOf (methAt 6 4), globals := 3, closure := [], defaults := .none, kwdefaults := .none, doc := .none, pyModule := .str (Str.ofString "cpy313.email.header") 289, annotations := none, code := .ref 161, closureTuple := .none, builtins := 0 }
noncomputable abbrev a_Acc_dstr : Addr := 169
noncomputable def body_Acc_dstr : List Stmt := (bodyOf (methAt 6 5))
noncomputable def fd_Acc_dstr : FuncData := { name := (Str.ofString "__str__"), qualname := (Str.ofString "_Accumulator.__str__"), params := parOf (methAt 6 5), body := .stmts body_Acc_dstr, scope := scOf (methAt 6 5), globals := 3, closure := [], defaults := .none, kwdefaults := .none, doc := .none, pyModule := .str (Str.ofString "cpy313.email.header") 289, annotations := none, code := .ref 168, closureTuple := .none, builtins := 0 }
noncomputable abbrev a_Acc_reset : Addr := 177
noncomputable def body_Acc_reset : List Stmt := (bodyOf (methAt 6 6))
noncomputable def fd_Acc_reset : FuncData := { name := (Str.ofString "reset"), qualname := (Str.ofString "_Accumulator.reset"), params := parOf (methAt 6 6), body := .stmts body_Acc_reset, scope := scOf (methAt 6 6), globals := 3, closure := [], defaults := .ref 170, kwdefaults := .none, doc := .none, pyModule := .str (Str.ofString "cpy313.email.header") 289, annotations := none, code := .ref 176, closureTuple := .none, builtins := 0 }
noncomputable abbrev a_Acc_is_onlyws : Addr := 184
noncomputable def body_Acc_is_onlyws : List Stmt := (bodyOf (methAt 6 7))
noncomputable def fd_Acc_is_onlyws : FuncData := { name := (Str.ofString "is_onlyws"), qualname := (Str.ofString "_Accumulator.is_onlyws"), params := parOf (methAt 6 7), body := .stmts body_Acc_is_onlyws, scope := scOf (methAt 6 7), globals := 3, closure := [], defaults := .none, kwdefaults := .none, doc := .none, pyModule := .str (Str.ofString "cpy313.email.header") 289, annotations := none, code := .ref 183, closureTuple := .none, builtins := 0 }
noncomputable abbrev a_Acc_part_count : Addr := 192
noncomputable def body_Acc_part_count : List Stmt := (bodyOf (methAt 6 8))
noncomputable def fd_Acc_part_count : FuncData := { name := (Str.ofString "part_count"), qualname := (Str.ofString "_Accumulator.part_count"), params := parOf (methAt 6 8), body := .stmts body_Acc_part_count, scope := scOf (methAt 6 8), globals := 3, closure := [((Str.ofString "__class__"), 119)], defaults := .none, kwdefaults := .none, doc := .none, pyModule := .str (Str.ofString "cpy313.email.header") 289, annotations := none, code := .ref 191, closureTuple := .ref 185, builtins := 0 }
noncomputable abbrev a_Acc : Addr := 195
noncomputable abbrev a_Acc_ns : Addr := 194
noncomputable abbrev a_iter_escaped_chars : Addr := 206
noncomputable def body_iter_escaped_chars : List Stmt := (bodyOf (stAt 8))
noncomputable def fd_iter_escaped_chars : FuncData := { name := (Str.ofString "_iter_escaped_chars"), qualname := (Str.ofString "_iter_escaped_chars"), params := parOf (stAt 8), body := .stmts body_iter_escaped_chars, scope := scOf (stAt 8), globals := 3, closure := [], defaults := .none, kwdefaults := .none, doc := .none, pyModule := .str (Str.ofString "cpy313.email.utils") 499, annotations := none, code := .ref 205, closureTuple := .none, builtins := 0 }
noncomputable abbrev a_strip_quoted_realnames : Addr := 213
noncomputable def body_strip_quoted_realnames : List Stmt := (bodyOf (stAt 9))
noncomputable def fd_strip_quoted_realnames : FuncData := { name := (Str.ofString "_strip_quoted_realnames"), qualname := (Str.ofString "_strip_quoted_realnames"), params := parOf (stAt 9), body := .stmts body_strip_quoted_realnames, scope := scOf (stAt 9), globals := 3, closure := [], defaults := .none, kwdefaults := .none, doc := .none, pyModule := .str (Str.ofString "cpy313.email.utils") 499, annotations := none, code := .ref 212, closureTuple := .none, builtins := 0 }
noncomputable abbrev a_check_parenthesis : Addr := 220
noncomputable def body_check_parenthesis : List Stmt := (bodyOf (stAt 10))
noncomputable def fd_check_parenthesis : FuncData := { name := (Str.ofString "_check_parenthesis"), qualname := (Str.ofString "_check_parenthesis"), params := parOf (stAt 10), body := .stmts body_check_parenthesis, scope := scOf (stAt 10), globals := 3, closure := [], defaults := .none, kwdefaults := .none, doc := .none, pyModule := .str (Str.ofString "cpy313.email.utils") 499, annotations := none, code := .ref 219, closureTuple := .none, builtins := 0 }
noncomputable abbrev a_quotedata : Addr := 237
noncomputable def body_quotedata : List Stmt := (bodyOf (stAt 15))
noncomputable def fd_quotedata : FuncData := { name := (Str.ofString "quotedata"), qualname := (Str.ofString "quotedata"), params := parOf (stAt 15), body := .stmts body_quotedata, scope := scOf (stAt 15), globals := 3, closure := [], defaults := .none, kwdefaults := .none, doc := .none, pyModule := .str (Str.ofString "cpy313.smtplib") 533, annotations := none, code := .ref 236, closureTuple := .none, builtins := 0 }
noncomputable abbrev a_law_rows : Addr := 242
noncomputable def body_law_rows : List Stmt := (bodyOf (stAt 17))
noncomputable def fd_law_rows : FuncData := { name := (Str.ofString "_law_rows"), qualname := (Str.ofString "_law_rows"), params := parOf (stAt 17), body := .stmts body_law_rows, scope := scOf (stAt 17), globals := 3, closure := [], defaults := .none, kwdefaults := .none, doc := .none, pyModule := .str (Str.ofString "law_tc0024_01") 602, annotations := none, code := .ref 241, closureTuple := .none, builtins := 0 }
noncomputable abbrev a_law_queue : Addr := 249
noncomputable def body_law_queue : List Stmt := (bodyOf (stAt 18))
noncomputable def fd_law_queue : FuncData := { name := (Str.ofString "_law_queue"), qualname := (Str.ofString "_law_queue"), params := parOf (stAt 18), body := .stmts body_law_queue, scope := scOf (stAt 18), globals := 3, closure := [], defaults := .none, kwdefaults := .none, doc := .none, pyModule := .str (Str.ofString "law_tc0024_01") 602, annotations := none, code := .ref 248, closureTuple := .none, builtins := 0 }
noncomputable abbrev a_law_nest : Addr := 254
noncomputable def body_law_nest : List Stmt := (bodyOf (stAt 19))
noncomputable def fd_law_nest : FuncData := { name := (Str.ofString "_law_nest"), qualname := (Str.ofString "_law_nest"), params := parOf (stAt 19), body := .stmts body_law_nest, scope := scOf (stAt 19), globals := 3, closure := [], defaults := .none, kwdefaults := .none, doc := .none, pyModule := .str (Str.ofString "law_tc0024_01") 602, annotations := none, code := .ref 253, closureTuple := .none, builtins := 0 }
noncomputable abbrev a_law_mail : Addr := 259
noncomputable def body_law_mail : List Stmt := (bodyOf (stAt 20))
noncomputable def fd_law_mail : FuncData := { name := (Str.ofString "_law_mail"), qualname := (Str.ofString "_law_mail"), params := parOf (stAt 20), body := .stmts body_law_mail, scope := scOf (stAt 20), globals := 3, closure := [], defaults := .none, kwdefaults := .none, doc := .none, pyModule := .str (Str.ofString "law_tc0024_01") 602, annotations := none, code := .ref 258, closureTuple := .none, builtins := 0 }
noncomputable abbrev a_law : Addr := 264
noncomputable def body_law : List Stmt := (bodyOf (stAt 21))
noncomputable def fd_law : FuncData := { name := (Str.ofString "law"), qualname := (Str.ofString "law"), params := parOf (stAt 21), body := .stmts body_law, scope := scOf (stAt 21), globals := 3, closure := [], defaults := .none, kwdefaults := .none, doc := .none, pyModule := .str (Str.ofString "law_tc0024_01") 602, annotations := none, code := .ref 263, closureTuple := .none, builtins := 0 }
noncomputable def KF (P : Params) : Frag := [
  (2, ⟨.none, none, .dict #[⟨PyData.keyHash P (Str.ofString "\x69mport.loaded._sre"), .str (Str.ofString "\x69mport.loaded._sre") 183, .bool true⟩, ⟨PyData.keyHash P (Str.ofString "class._frozen_importlib.BuiltinImporter"), .str (Str.ofString "class._frozen_importlib.BuiltinImporter") 185, .ref 14⟩, ⟨PyData.keyHash P (Str.ofString "watched.\x69mport"), .str (Str.ofString "watched.\x69mport") 206, .ref 18⟩, ⟨PyData.keyHash P (Str.ofString "class._frozen_importlib.ModuleSpec"), .str (Str.ofString "class._frozen_importlib.ModuleSpec") 216, .ref 22⟩, ⟨PyData.keyHash P (Str.ofString "sys.modules.booked-epoch"), .str (Str.ofString "sys.modules.booked-epoch") 245, .int 3 0⟩, ⟨PyData.keyHash P (Str.ofString "\x69mport.later-laid._sre"), .str (Str.ofString "\x69mport.later-laid._sre") 270, .bool true⟩, ⟨PyData.keyHash P (Str.ofString "watched.library"), .str (Str.ofString "watched.library") 272, .ref 27⟩, ⟨PyData.keyHash P (Str.ofString "watched.library-objects"), .str (Str.ofString "watched.library-objects") 0, .str (Str.ofString "\x0c") 0⟩, ⟨PyData.keyHash P (Str.ofString "watched.library-deep._sre"), .str (Str.ofString "watched.library-deep._sre") 273, .str (Str.ofString "\x04\x00\x00\x0b\x04\x00\x00\x0b\x04\x00\x00\x03\x04\x00\x00\x0b\x08\x04dict\x02") 0⟩] 9, #[]⟩),
  (3, ⟨.type "dict", none, .dict #[⟨PyData.keyHash P (Str.ofString "__name__"), .str (Str.ofString "__name__") 165, .str (Str.ofString "law_tc0024_01") 602⟩, ⟨PyData.keyHash P (Str.ofString "__doc__"), .str (Str.ofString "__doc__") 166, .none⟩, ⟨PyData.keyHash P (Str.ofString "__package__"), .str (Str.ofString "__package__") 167, .none⟩, ⟨PyData.keyHash P (Str.ofString "__loader__"), .str (Str.ofString "__loader__") 168, .builtin "__main__.__loader__#opaque"⟩, ⟨PyData.keyHash P (Str.ofString "__spec__"), .str (Str.ofString "__spec__") 169, .none⟩, ⟨PyData.keyHash P (Str.ofString "__annotations__"), .str (Str.ofString "__annotations__") 170, .ref 6⟩, ⟨PyData.keyHash P (Str.ofString "__builtins__"), .str (Str.ofString "__builtins__") 171, .ref 4⟩, ⟨PyData.keyHash P (Str.ofString "__file__"), .str (Str.ofString "__file__") 173, .str (Str.ofString "/claim/cut.py") 172⟩, ⟨PyData.keyHash P (Str.ofString "__cached__"), .str (Str.ofString "__cached__") 174, .none⟩, ⟨PyData.keyHash P (Str.ofString "_sre"), .str (Str.ofString "_sre") 275, .ref 12⟩, ⟨PyData.keyHash P (Str.ofString "_wall"), .str (Str.ofString "_wall") 288, .ref 38⟩, ⟨PyData.keyHash P (Str.ofString "NL"), .str (Str.ofString "NL") 292, .str (Str.ofString "\n") 291⟩, ⟨PyData.keyHash P (Str.ofString "EMPTYSTRING"), .str (Str.ofString "EMPTYSTRING") 294, .str (Str.ofString "") 293⟩, ⟨PyData.keyHash P (Str.ofString "_ValueFormatter"), .str (Str.ofString "_ValueFormatter") 402, .ref 111⟩, ⟨PyData.keyHash P (Str.ofString "_Accumulator"), .str (Str.ofString "_Accumulator") 498, .ref 195⟩, ⟨PyData.keyHash P (Str.ofString "_iter_escaped_chars"), .str (Str.ofString "_iter_escaped_chars") 510, .ref 206⟩, ⟨PyData.keyHash P (Str.ofString "_strip_quoted_realnames"), .str (Str.ofString "_strip_quoted_realnames") 522, .ref 213⟩, ⟨PyData.keyHash P (Str.ofString "_check_parenthesis"), .str (Str.ofString "_check_parenthesis") 532, .ref 220⟩, ⟨PyData.keyHash P (Str.ofString "_twin_re_1"), .str (Str.ofString "_twin_re_1") 550, .ref 225⟩, ⟨PyData.keyHash P (Str.ofString "_twin_re_2"), .str (Str.ofString "_twin_re_2") 592, .ref 230⟩, ⟨PyData.keyHash P (Str.ofString "CRLF"), .str (Str.ofString "CRLF") 594, .str (Str.ofString "\r\n") 593⟩, ⟨PyData.keyHash P (Str.ofString "quotedata"), .str (Str.ofString "quotedata") 601, .ref 237⟩, ⟨PyData.keyHash P (Str.ofString "_law_rows"), .str (Str.ofString "_law_rows") 609, .ref 242⟩, ⟨PyData.keyHash P (Str.ofString "_law_queue"), .str (Str.ofString "_law_queue") 619, .ref 249⟩, ⟨PyData.keyHash P (Str.ofString "_law_nest"), .str (Str.ofString "_law_nest") 625, .ref 254⟩, ⟨PyData.keyHash P (Str.ofString "_law_mail"), .str (Str.ofString "_law_mail") 631, .ref 259⟩, ⟨PyData.keyHash P (Str.ofString "law"), .str (Str.ofString "law") 637, .ref 264⟩] 27, #[]⟩),
  (51, ⟨.type "code", none, .fields #[.str (Str.ofString "__init__") 307, .str (Str.ofString "_ValueFormatter.__init__") 308, .str (Str.ofString "/claim/cut.py") 309, .int 10 0, .int 5 0, .int 0 0, .int 0 0, .int 3 0, .ref 46, .bool true, .int 276 0, .ref 47, .none, .ref 48, .ref 49, .ref 50, .int 315 0, .int 10 0, .str (Str.ofString "/claim/cut.py") 316], #[]⟩),
  (52, ⟨.type "function", none, .func fd_VF_dinit, #[]⟩),
  (58, ⟨.type "code", none, .fields #[.str (Str.ofString "_str") 318, .str (Str.ofString "_ValueFormatter._str") 319, .str (Str.ofString "/claim/cut.py") 320, .int 18 0, .int 2 0, .int 0 0, .int 0 0, .int 3 0, .ref 53, .bool true, .int 276 0, .ref 54, .none, .ref 55, .ref 56, .ref 57, .int 323 0, .int 18 0, .str (Str.ofString "/claim/cut.py") 324], #[]⟩),
  (59, ⟨.type "function", none, .func fd_VF_str, #[]⟩),
  (65, ⟨.type "code", none, .fields #[.str (Str.ofString "__str__") 326, .str (Str.ofString "_ValueFormatter.__str__") 327, .str (Str.ofString "/claim/cut.py") 328, .int 22 0, .int 1 0, .int 0 0, .int 0 0, .int 3 0, .ref 60, .bool true, .int 276 0, .ref 61, .none, .ref 62, .ref 63, .ref 64, .int 330 0, .int 22 0, .str (Str.ofString "/claim/cut.py") 331], #[]⟩),
  (66, ⟨.type "function", none, .func fd_VF_dstr, #[]⟩),
  (72, ⟨.type "code", none, .fields #[.str (Str.ofString "newline") 333, .str (Str.ofString "_ValueFormatter.newline") 334, .str (Str.ofString "/claim/cut.py") 335, .int 25 0, .int 1 0, .int 0 0, .int 0 0, .int 3 0, .ref 67, .bool true, .int 276 0, .ref 68, .none, .ref 69, .ref 70, .ref 71, .int 338 0, .int 25 0, .str (Str.ofString "/claim/cut.py") 339], #[]⟩),
  (73, ⟨.type "function", none, .func fd_VF_newline, #[]⟩),
  (107, ⟨.type "code", none, .fields #[.str (Str.ofString "_append_chunk") 375, .str (Str.ofString "_ValueFormatter._append_chunk") 376, .str (Str.ofString "/claim/cut.py") 377, .int 48 0, .int 3 0, .int 0 0, .int 0 0, .int 3 0, .ref 102, .bool true, .int 276 0, .ref 103, .none, .ref 104, .ref 105, .ref 106, .int 386 0, .int 48 0, .str (Str.ofString "/claim/cut.py") 387], #[]⟩),
  (108, ⟨.type "function", none, .func fd_VF_append_chunk, #[]⟩),
  (110, ⟨.type "dict", none, .dict #[⟨PyData.keyHash P (Str.ofString "__module__"), .str (Str.ofString "__module__") 302, .str (Str.ofString "cpy313.email.header") 289⟩, ⟨PyData.keyHash P (Str.ofString "__firstlineno__"), .str (Str.ofString "__firstlineno__") 306, .int 8 305⟩, ⟨PyData.keyHash P (Str.ofString "__init__"), .str (Str.ofString "__init__") 317, .ref 52⟩, ⟨PyData.keyHash P (Str.ofString "_str"), .str (Str.ofString "_str") 325, .ref 59⟩, ⟨PyData.keyHash P (Str.ofString "__str__"), .str (Str.ofString "__str__") 332, .ref 66⟩, ⟨PyData.keyHash P (Str.ofString "newline"), .str (Str.ofString "newline") 340, .ref 73⟩, ⟨PyData.keyHash P (Str.ofString "add_transition"), .str (Str.ofString "add_transition") 347, .ref 80⟩, ⟨PyData.keyHash P (Str.ofString "feed"), .str (Str.ofString "feed") 357, .ref 87⟩, ⟨PyData.keyHash P (Str.ofString "_maxlengths"), .str (Str.ofString "_maxlengths") 364, .ref 94⟩, ⟨PyData.keyHash P (Str.ofString "_ascii_split"), .str (Str.ofString "_ascii_split") 374, .ref 101⟩, ⟨PyData.keyHash P (Str.ofString "_append_chunk"), .str (Str.ofString "_append_chunk") 388, .ref 108⟩, ⟨PyData.keyHash P (Str.ofString "__static_attributes__"), .str (Str.ofString "__static_attributes__") 395, .ref 109⟩, ⟨PyData.keyHash P (Str.ofString "__dict__"), .str (Str.ofString "__dict__") 397, .ref 112⟩, ⟨PyData.keyHash P (Str.ofString "__weakref__"), .str (Str.ofString "__weakref__") 399, .ref 113⟩, ⟨PyData.keyHash P (Str.ofString "__doc__"), .str (Str.ofString "__doc__") 400, .none⟩] 4, #[]⟩),
  (111, ⟨.type "type", none, .cls { name := (Str.ofString "_ValueFormatter"), bases := [.type "object"], mro := [.ref 111, .type "object"], ns := 110, qualname := (Str.ofString "_ValueFormatter"), hasDict := true, slotNames := [], subclasses := [], abstract := false, collection := none, hasDel := false }, #[none, none, (some (.str (Str.ofString "_ValueFormatter") 295)), (some (.str (Str.ofString "_ValueFormatter") 303)), (some (.builtin "object.__new__")), (some (.bool true))]⟩),
  (119, ⟨.type "cell", none, .cell (some (.ref 195)), #[]⟩),
  (124, ⟨.type "tuple", none, .seq #[.int 0 415] 0, #[]⟩),
  (131, ⟨.type "code", none, .fields #[.str (Str.ofString "__init__") 416, .str (Str.ofString "_Accumulator.__init__") 417, .str (Str.ofString "/claim/cut.py") 418, .int 76 0, .int 2 0, .int 0 0, .int 0 0, .int 3 0, .ref 126, .bool true, .int 276 0, .ref 127, .none, .ref 128, .ref 129, .ref 130, .int 422 0, .int 76 0, .str (Str.ofString "/claim/cut.py") 423], #[]⟩),
  (132, ⟨.type "function", none, .func fd_Acc_dinit, #[]⟩),
  (138, ⟨.type "code", none, .fields #[.str (Str.ofString "push") 425, .str (Str.ofString "_Accumulator.push") 426, .str (Str.ofString "/claim/cut.py") 427, .int 80 0, .int 3 0, .int 0 0, .int 0 0, .int 3 0, .ref 133, .bool true, .int 276 0, .ref 134, .none, .ref 135, .ref 136, .ref 137, .int 431 0, .int 80 0, .str (Str.ofString "/claim/cut.py") 432], #[]⟩),
  (139, ⟨.type "function", none, .func fd_Acc_push, #[]⟩),
  (140, ⟨.type "tuple", none, .seq #[.int 0 434] 0, #[]⟩),
  (146, ⟨.type "code", none, .fields #[.str (Str.ofString "pop_from") 435, .str (Str.ofString "_Accumulator.pop_from") 436, .str (Str.ofString "/claim/cut.py") 437, .int 83 0, .int 2 0, .int 0 0, .int 0 0, .int 3 0, .ref 141, .bool true, .int 276 0, .ref 142, .none, .ref 143, .ref 144, .ref 145, .int 441 0, .int 83 0, .str (Str.ofString "/claim/cut.py") 442], #[]⟩),
  (147, ⟨.type "function", none, .func fd_Acc_pop_from, #[]⟩),
  (154, ⟨.type "code", none, .fields #[.str (Str.ofString "pop") 444, .str (Str.ofString "_Accumulator.pop") 445, .str (Str.ofString "/claim/cut.py") 446, .int 88 0, .int 1 0, .int 0 0, .int 0 0, .int 3 0, .ref 149, .bool true, .int 276 0, .ref 150, .none, .ref 151, .ref 152, .ref 153, .int 449 0, .int 88 0, .str (Str.ofString "/claim/cut.py") 450], #[]⟩),
  (155, ⟨.type "function", none, .func fd_Acc_pop, #[]⟩),
  (161, ⟨.type "code", none, .fields #[.str (Str.ofString "__len__") 452, .str (Str.ofString "_Accumulator.__len__") 453, .str (Str.ofString "/claim/cut.py") 454, .int 93 0, .int 1 0, .int 0 0, .int 0 0, .int 3 0, .ref 156, .bool true, .int 276 0, .ref 157, .none, .ref 158, .ref 159, .ref 160, .int 456 0, .int 93 0, .str (Str.ofString "/claim/cut.py") 457], #[]⟩),
  (162, ⟨.type "function", none, .func fd_Acc_dlen, #[]⟩),
  (168, ⟨.type "code", none, .fields #[.str (Str.ofString "__str__") 459, .str (Str.ofString "_Accumulator.__str__") 460, .str (Str.ofString "/claim/cut.py") 461, .int 96 0, .int 1 0, .int 0 0, .int 0 0, .int 3 0, .ref 163, .bool true, .int 276 0, .ref 164, .none, .ref 165, .ref 166, .ref 167, .int 463 0, .int 96 0, .str (Str.ofString "/claim/cut.py") 464], #[]⟩),
  (169, ⟨.type "function", none, .func fd_Acc_dstr, #[]⟩),
  (170, ⟨.type "tuple", none, .seq #[.none] 0, #[]⟩),
  (176, ⟨.type "code", none, .fields #[.str (Str.ofString "reset") 466, .str (Str.ofString "_Accumulator.reset") 467, .str (Str.ofString "/claim/cut.py") 468, .int 99 0, .int 2 0, .int 0 0, .int 0 0, .int 3 0, .ref 171, .bool true, .int 276 0, .ref 172, .none, .ref 173, .ref 174, .ref 175, .int 471 0, .int 99 0, .str (Str.ofString "/claim/cut.py") 472], #[]⟩),
  (177, ⟨.type "function", none, .func fd_Acc_reset, #[]⟩),
  (183, ⟨.type "code", none, .fields #[.str (Str.ofString "is_onlyws") 474, .str (Str.ofString "_Accumulator.is_onlyws") 475, .str (Str.ofString "/claim/cut.py") 476, .int 105 0, .int 1 0, .int 0 0, .int 0 0, .int 3 0, .ref 178, .bool true, .int 276 0, .ref 179, .none, .ref 180, .ref 181, .ref 182, .int 478 0, .int 105 0, .str (Str.ofString "/claim/cut.py") 479], #[]⟩),
  (184, ⟨.type "function", none, .func fd_Acc_is_onlyws, #[]⟩),
  (191, ⟨.type "code", none, .fields #[.str (Str.ofString "part_count") 481, .str (Str.ofString "_Accumulator.part_count") 482, .str (Str.ofString "/claim/cut.py") 483, .int 108 0, .int 1 0, .int 0 0, .int 0 0, .int 3 0, .ref 186, .bool true, .int 276 0, .ref 187, .none, .ref 188, .ref 189, .ref 190, .int 486 0, .int 108 0, .str (Str.ofString "/claim/cut.py") 487], #[]⟩),
  (192, ⟨.type "function", none, .func fd_Acc_part_count, #[]⟩),
  (194, ⟨.type "dict", none, .dict #[⟨PyData.keyHash P (Str.ofString "__module__"), .str (Str.ofString "__module__") 410, .str (Str.ofString "cpy313.email.header") 289⟩, ⟨PyData.keyHash P (Str.ofString "__firstlineno__"), .str (Str.ofString "__firstlineno__") 414, .int 74 413⟩, ⟨PyData.keyHash P (Str.ofString "__init__"), .str (Str.ofString "__init__") 424, .ref 132⟩, ⟨PyData.keyHash P (Str.ofString "push"), .str (Str.ofString "push") 433, .ref 139⟩, ⟨PyData.keyHash P (Str.ofString "pop_from"), .str (Str.ofString "pop_from") 443, .ref 147⟩, ⟨PyData.keyHash P (Str.ofString "pop"), .str (Str.ofString "pop") 451, .ref 155⟩, ⟨PyData.keyHash P (Str.ofString "__len__"), .str (Str.ofString "__len__") 458, .ref 162⟩, ⟨PyData.keyHash P (Str.ofString "__str__"), .str (Str.ofString "__str__") 465, .ref 169⟩, ⟨PyData.keyHash P (Str.ofString "reset"), .str (Str.ofString "reset") 473, .ref 177⟩, ⟨PyData.keyHash P (Str.ofString "is_onlyws"), .str (Str.ofString "is_onlyws") 480, .ref 184⟩, ⟨PyData.keyHash P (Str.ofString "part_count"), .str (Str.ofString "part_count") 488, .ref 192⟩, ⟨PyData.keyHash P (Str.ofString "__static_attributes__"), .str (Str.ofString "__static_attributes__") 490, .ref 193⟩, ⟨PyData.keyHash P (Str.ofString "__dict__"), .str (Str.ofString "__dict__") 493, .ref 196⟩, ⟨PyData.keyHash P (Str.ofString "__weakref__"), .str (Str.ofString "__weakref__") 495, .ref 197⟩, ⟨PyData.keyHash P (Str.ofString "__doc__"), .str (Str.ofString "__doc__") 496, .none⟩] 5, #[]⟩),
  (195, ⟨.type "type", none, .cls { name := (Str.ofString "_Accumulator"), bases := [.type "list"], mro := [.ref 195, .type "list", .type "object"], ns := 194, qualname := (Str.ofString "_Accumulator"), hasDict := true, slotNames := [], subclasses := [], abstract := false, collection := none, hasDel := false }, #[(some (.ref 116)), none, (some (.str (Str.ofString "_Accumulator") 403)), (some (.str (Str.ofString "_Accumulator") 411)), (some (.builtin "list.__new__")), (some (.bool true))]⟩),
  (205, ⟨.type "code", none, .fields #[.str (Str.ofString "_iter_escaped_chars") 501, .str (Str.ofString "_iter_escaped_chars") 502, .str (Str.ofString "/claim/cut.py") 503, .int 111 0, .int 1 0, .int 0 0, .int 0 0, .int 35 0, .ref 200, .bool true, .int 276 0, .ref 201, .none, .ref 202, .ref 203, .ref 204, .int 508 0, .int 111 0, .str (Str.ofString "/claim/cut.py") 509], #[]⟩),
  (206, ⟨.type "function", none, .func fd_iter_escaped_chars, #[]⟩),
  (212, ⟨.type "code", none, .fields #[.str (Str.ofString "_strip_quoted_realnames") 511, .str (Str.ofString "_strip_quoted_realnames") 512, .str (Str.ofString "/claim/cut.py") 513, .int 124 0, .int 1 0, .int 0 0, .int 0 0, .int 3 0, .ref 207, .bool true, .int 276 0, .ref 208, .none, .ref 209, .ref 210, .ref 211, .int 520 0, .int 124 0, .str (Str.ofString "/claim/cut.py") 521], #[]⟩),
  (213, ⟨.type "function", none, .func fd_strip_quoted_realnames, #[]⟩),
  (219, ⟨.type "code", none, .fields #[.str (Str.ofString "_check_parenthesis") 523, .str (Str.ofString "_check_parenthesis") 524, .str (Str.ofString "/claim/cut.py") 525, .int 142 0, .int 1 0, .int 0 0, .int 0 0, .int 3 0, .ref 214, .bool true, .int 276 0, .ref 215, .none, .ref 216, .ref 217, .ref 218, .int 530 0, .int 142 0, .str (Str.ofString "/claim/cut.py") 531], #[]⟩),
  (220, ⟨.type "function", none, .func fd_check_parenthesis, #[]⟩),
  (224, ⟨.type "tuple", none, .seq #[.int 14 0, .int 4 0, .int 0 0, .int 1 0, .int 1 0, .int 6 0, .int 1 0, .int 16 0, .int 46 0, .int 1 0] 0, #[]⟩),
  (225, ⟨.type "re.Pattern", none, .fields #[.str (Str.ofString "(?m)^\\.") 536, .int 40 549, .int 0 0, .none, .none, .ref 224, .int 0 0], #[]⟩),
  (229, ⟨.type "tuple", none, .seq #[.int 14 0, .int 9 0, .int 4 0, .int 1 0, .int 2 0, .int 16 0, .int 10 0, .int 16 0, .int 13 0, .int 0 0, .int 7 0, .int 7 0, .int 16 0, .int 13 0, .int 16 0, .int 10 0, .int 15 0, .int 18 0, .int 5 0, .int 16 0, .int 10 0, .int 15 0, .int 13 0, .int 11 0, .int 16 0, .int 13 0, .int 5 0, .int 5 0, .int 0 0, .int 16 0, .int 10 0, .int 1 0, .int 15 0, .int 2 0, .int 0 0, .int 1 0] 0, #[]⟩),
  (230, ⟨.type "re.Pattern", none, .fields #[.str (Str.ofString "(?:\\r\\n|\\n|\\r(?!\\n))") 552, .int 32 591, .int 0 0, .none, .none, .ref 229, .int 0 0], #[]⟩),
  (236, ⟨.type "code", none, .fields #[.str (Str.ofString "quotedata") 595, .str (Str.ofString "quotedata") 596, .str (Str.ofString "/claim/cut.py") 597, .int 157 0, .int 1 0, .int 0 0, .int 0 0, .int 3 0, .ref 231, .bool true, .int 276 0, .ref 232, .none, .ref 233, .ref 234, .ref 235, .int 599 0, .int 157 0, .str (Str.ofString "/claim/cut.py") 600], #[]⟩),
  (237, ⟨.type "function", none, .func fd_quotedata, #[]⟩),
  (241, ⟨.type "code", none, .fields #[.str (Str.ofString "_law_rows") 604, .str (Str.ofString "_law_rows") 605, .str (Str.ofString "/claim/cut.py") 606, .int 160 0, .int 2 0, .int 0 0, .int 0 0, .int 3 0, .ref 238, .bool true, .int 276 0, .ref 239, .none, .none, .none, .ref 240, .int 607 0, .int 160 0, .str (Str.ofString "/claim/cut.py") 608], #[]⟩),
  (242, ⟨.type "function", none, .func fd_law_rows, #[]⟩),
  (248, ⟨.type "code", none, .fields #[.str (Str.ofString "_law_queue") 610, .str (Str.ofString "_law_queue") 611, .str (Str.ofString "/claim/cut.py") 612, .int 168 0, .int 2 0, .int 0 0, .int 0 0, .int 3 0, .ref 243, .bool true, .int 276 0, .ref 244, .none, .ref 245, .ref 246, .ref 247, .int 617 0, .int 168 0, .str (Str.ofString "/claim/cut.py") 618], #[]⟩),
  (249, ⟨.type "function", none, .func fd_law_queue, #[]⟩),
  (253, ⟨.type "code", none, .fields #[.str (Str.ofString "_law_nest") 620, .str (Str.ofString "_law_nest") 621, .str (Str.ofString "/claim/cut.py") 622, .int 173 0, .int 3 0, .int 0 0, .int 0 0, .int 3 0, .ref 250, .bool true, .int 276 0, .ref 251, .none, .none, .none, .ref 252, .int 623 0, .int 173 0, .str (Str.ofString "/claim/cut.py") 624], #[]⟩),
  (254, ⟨.type "function", none, .func fd_law_nest, #[]⟩),
  (258, ⟨.type "code", none, .fields #[.str (Str.ofString "_law_mail") 626, .str (Str.ofString "_law_mail") 627, .str (Str.ofString "/claim/cut.py") 628, .int 176 0, .int 1 0, .int 0 0, .int 0 0, .int 3 0, .ref 255, .bool true, .int 276 0, .ref 256, .none, .none, .none, .ref 257, .int 629 0, .int 176 0, .str (Str.ofString "/claim/cut.py") 630], #[]⟩),
  (259, ⟨.type "function", none, .func fd_law_mail, #[]⟩),
  (263, ⟨.type "code", none, .fields #[.str (Str.ofString "law") 632, .str (Str.ofString "law") 633, .str (Str.ofString "/claim/cut.py") 634, .int 189 0, .int 1 0, .int 0 0, .int 0 0, .int 3 0, .ref 260, .bool true, .int 276 0, .ref 261, .none, .none, .none, .ref 262, .int 635 0, .int 189 0, .str (Str.ofString "/claim/cut.py") 636], #[]⟩),
  (264, ⟨.type "function", none, .func fd_law, #[]⟩)]
theorem lk_VF_dinit (P : Params) : (KF P).lookup a_VF_dinit = some ⟨.type "function", none, .func fd_VF_dinit, #[]⟩ := by kernel_rfl
theorem cd_VF_dinit (P : Params) : codeIn (KF P) fd_VF_dinit.code fd_VF_dinit.qualname = true := by kernel_rfl
theorem lk_VF_str (P : Params) : (KF P).lookup a_VF_str = some ⟨.type "function", none, .func fd_VF_str, #[]⟩ := by kernel_rfl
theorem cd_VF_str (P : Params) : codeIn (KF P) fd_VF_str.code fd_VF_str.qualname = true := by kernel_rfl
theorem lk_VF_dstr (P : Params) : (KF P).lookup a_VF_dstr = some ⟨.type "function", none, .func fd_VF_dstr, #[]⟩ := by kernel_rfl
theorem cd_VF_dstr (P : Params) : codeIn (KF P) fd_VF_dstr.code fd_VF_dstr.qualname = true := by kernel_rfl
theorem lk_VF_newline (P : Params) : (KF P).lookup a_VF_newline = some ⟨.type "function", none, .func fd_VF_newline, #[]⟩ := by kernel_rfl
theorem cd_VF_newline (P : Params) : codeIn (KF P) fd_VF_newline.code fd_VF_newline.qualname = true := by kernel_rfl
theorem lk_VF_append_chunk (P : Params) : (KF P).lookup a_VF_append_chunk = some ⟨.type "function", none, .func fd_VF_append_chunk, #[]⟩ := by kernel_rfl
theorem cd_VF_append_chunk (P : Params) : codeIn (KF P) fd_VF_append_chunk.code fd_VF_append_chunk.qualname = true := by kernel_rfl
theorem lk_Acc_dinit (P : Params) : (KF P).lookup a_Acc_dinit = some ⟨.type "function", none, .func fd_Acc_dinit, #[]⟩ := by kernel_rfl
theorem cd_Acc_dinit (P : Params) : codeIn (KF P) fd_Acc_dinit.code fd_Acc_dinit.qualname = true := by kernel_rfl
theorem lk_Acc_push (P : Params) : (KF P).lookup a_Acc_push = some ⟨.type "function", none, .func fd_Acc_push, #[]⟩ := by kernel_rfl
theorem cd_Acc_push (P : Params) : codeIn (KF P) fd_Acc_push.code fd_Acc_push.qualname = true := by kernel_rfl
theorem lk_Acc_pop_from (P : Params) : (KF P).lookup a_Acc_pop_from = some ⟨.type "function", none, .func fd_Acc_pop_from, #[]⟩ := by kernel_rfl
theorem cd_Acc_pop_from (P : Params) : codeIn (KF P) fd_Acc_pop_from.code fd_Acc_pop_from.qualname = true := by kernel_rfl
theorem lk_Acc_pop (P : Params) : (KF P).lookup a_Acc_pop = some ⟨.type "function", none, .func fd_Acc_pop, #[]⟩ := by kernel_rfl
theorem cd_Acc_pop (P : Params) : codeIn (KF P) fd_Acc_pop.code fd_Acc_pop.qualname = true := by kernel_rfl
theorem lk_Acc_dlen (P : Params) : (KF P).lookup a_Acc_dlen = some ⟨.type "function", none, .func fd_Acc_dlen, #[]⟩ := by kernel_rfl
theorem cd_Acc_dlen (P : Params) : codeIn (KF P) fd_Acc_dlen.code fd_Acc_dlen.qualname = true := by kernel_rfl
theorem lk_Acc_dstr (P : Params) : (KF P).lookup a_Acc_dstr = some ⟨.type "function", none, .func fd_Acc_dstr, #[]⟩ := by kernel_rfl
theorem cd_Acc_dstr (P : Params) : codeIn (KF P) fd_Acc_dstr.code fd_Acc_dstr.qualname = true := by kernel_rfl
theorem lk_Acc_reset (P : Params) : (KF P).lookup a_Acc_reset = some ⟨.type "function", none, .func fd_Acc_reset, #[]⟩ := by kernel_rfl
theorem cd_Acc_reset (P : Params) : codeIn (KF P) fd_Acc_reset.code fd_Acc_reset.qualname = true := by kernel_rfl
theorem lk_Acc_is_onlyws (P : Params) : (KF P).lookup a_Acc_is_onlyws = some ⟨.type "function", none, .func fd_Acc_is_onlyws, #[]⟩ := by kernel_rfl
theorem cd_Acc_is_onlyws (P : Params) : codeIn (KF P) fd_Acc_is_onlyws.code fd_Acc_is_onlyws.qualname = true := by kernel_rfl
theorem lk_Acc_part_count (P : Params) : (KF P).lookup a_Acc_part_count = some ⟨.type "function", none, .func fd_Acc_part_count, #[]⟩ := by kernel_rfl
theorem cd_Acc_part_count (P : Params) : codeIn (KF P) fd_Acc_part_count.code fd_Acc_part_count.qualname = true := by kernel_rfl
theorem lk_iter_escaped_chars (P : Params) : (KF P).lookup a_iter_escaped_chars = some ⟨.type "function", none, .func fd_iter_escaped_chars, #[]⟩ := by kernel_rfl
theorem cd_iter_escaped_chars (P : Params) : codeIn (KF P) fd_iter_escaped_chars.code fd_iter_escaped_chars.qualname = true := by kernel_rfl
theorem lk_strip_quoted_realnames (P : Params) : (KF P).lookup a_strip_quoted_realnames = some ⟨.type "function", none, .func fd_strip_quoted_realnames, #[]⟩ := by kernel_rfl
theorem cd_strip_quoted_realnames (P : Params) : codeIn (KF P) fd_strip_quoted_realnames.code fd_strip_quoted_realnames.qualname = true := by kernel_rfl
theorem lk_check_parenthesis (P : Params) : (KF P).lookup a_check_parenthesis = some ⟨.type "function", none, .func fd_check_parenthesis, #[]⟩ := by kernel_rfl
theorem cd_check_parenthesis (P : Params) : codeIn (KF P) fd_check_parenthesis.code fd_check_parenthesis.qualname = true := by kernel_rfl
theorem lk_quotedata (P : Params) : (KF P).lookup a_quotedata = some ⟨.type "function", none, .func fd_quotedata, #[]⟩ := by kernel_rfl
theorem cd_quotedata (P : Params) : codeIn (KF P) fd_quotedata.code fd_quotedata.qualname = true := by kernel_rfl
theorem lk_law_rows (P : Params) : (KF P).lookup a_law_rows = some ⟨.type "function", none, .func fd_law_rows, #[]⟩ := by kernel_rfl
theorem cd_law_rows (P : Params) : codeIn (KF P) fd_law_rows.code fd_law_rows.qualname = true := by kernel_rfl
theorem lk_law_queue (P : Params) : (KF P).lookup a_law_queue = some ⟨.type "function", none, .func fd_law_queue, #[]⟩ := by kernel_rfl
theorem cd_law_queue (P : Params) : codeIn (KF P) fd_law_queue.code fd_law_queue.qualname = true := by kernel_rfl
theorem lk_law_nest (P : Params) : (KF P).lookup a_law_nest = some ⟨.type "function", none, .func fd_law_nest, #[]⟩ := by kernel_rfl
theorem cd_law_nest (P : Params) : codeIn (KF P) fd_law_nest.code fd_law_nest.qualname = true := by kernel_rfl
theorem lk_law_mail (P : Params) : (KF P).lookup a_law_mail = some ⟨.type "function", none, .func fd_law_mail, #[]⟩ := by kernel_rfl
theorem cd_law_mail (P : Params) : codeIn (KF P) fd_law_mail.code fd_law_mail.qualname = true := by kernel_rfl
theorem lk_law (P : Params) : (KF P).lookup a_law = some ⟨.type "function", none, .func fd_law, #[]⟩ := by kernel_rfl
theorem cd_law (P : Params) : codeIn (KF P) fd_law.code fd_law.qualname = true := by kernel_rfl
noncomputable def qv : Program := { pw with main := { pw.main with body := [stAt 0, stAt 21] } }
noncomputable def lz : List PySem.Str := [Str.ofString "_wall", Str.ofString "NL", Str.ofString "EMPTYSTRING", Str.ofString "_ValueFormatter", Str.ofString "_Accumulator", Str.ofString "_iter_escaped_chars", Str.ofString "_strip_quoted_realnames", Str.ofString "_check_parenthesis", Str.ofString "_twin_re_1", Str.ofString "_twin_re_2", Str.ofString "CRLF", Str.ofString "quotedata", Str.ofString "_law_rows", Str.ofString "_law_queue", Str.ofString "_law_nest", Str.ofString "_law_mail"]
noncomputable def kAddrs : List Addr := [2, 3, 51, 52, 58, 59, 65, 66, 72, 73, 107, 108, 110, 111, 119, 124, 131, 132, 138, 139, 140, 146, 147, 154, 155, 161, 162, 168, 169, 170, 176, 177, 183, 184, 191, 192, 194, 195, 205, 206, 212, 213, 219, 220, 224, 225, 229, 230, 236, 237, 241, 242, 248, 249, 253, 254, 258, 259, 263, 264]
noncomputable abbrev C1 : Addr := 161
noncomputable abbrev C2 : Addr := 168
noncomputable abbrev T1 : Addr := 157
noncomputable abbrev T2 : Addr := 164
noncomputable abbrev szTop : Nat := 265
noncomputable def tabOne (h : Heap) (t : Addr) : Bool := (match h.get? t with | some ⟨.none, none, .fields a, sl⟩ => a.size == 0 && sl.size == 0 | _ => false)
noncomputable def tabsIn (s : Shared) : Bool := tabOne s.heap T1 && tabOne s.heap T2
noncomputable def obsv (s : Shared) : List (Option Obj) × Nat × Bool := (kAddrs.map s.heap.get?, s.heap.objs.size, tabsIn s)
noncomputable def valv (w : World) : List (Option Obj) × Nat × Bool := ((KF w.params).map (fun p => some p.2), szTop, true)
theorem left : LeftO pw qv lz (fun s => xlAt qv [] s && recOk (RowW.records (OpenRow.toRowW (OpenLaw.row PySem.Challenge.rw_tc0024_01))) s) obsv valv 4000 := fun w => by kernel_rfl
end Mine
namespace Mine
open PySem PySem.W PySem.W.X PySem.Calls PyProof.Rows
theorem x0_3 {c1 c2 c3 : Prop} {g : Prop} (h : c1 ∧ c2 ∧ c3) (k : c1 → c2 → c3 → g) : g := by obtain ⟨p1, p2, p3⟩ := h; exact k p1 p2 p3
theorem x1_2 {t1 : Sort _} {c1 c2 : t1 → Prop} {g : Prop} (h : ∃ a1, c1 a1 ∧ c2 a1) (k : ∀ a1, c1 a1 → c2 a1 → g) : g := by obtain ⟨a1, p1, p2⟩ := h; exact k a1 p1 p2
theorem x2_1 {t1 : Sort _} {t2 : Sort _} {c1 : t1 → t2 → Prop} {g : Prop} (h : ∃ a1 a2, c1 a1 a2) (k : ∀ a1 a2, c1 a1 a2 → g) : g := by obtain ⟨a1, a2, p1⟩ := h; exact k a1 a2 p1
theorem x0_4 {c1 c2 c3 c4 : Prop} {g : Prop} (h : c1 ∧ c2 ∧ c3 ∧ c4) (k : c1 → c2 → c3 → c4 → g) : g := by obtain ⟨p1, p2, p3, p4⟩ := h; exact k p1 p2 p3 p4
theorem x1_3 {t1 : Sort _} {c1 c2 c3 : t1 → Prop} {g : Prop} (h : ∃ a1, c1 a1 ∧ c2 a1 ∧ c3 a1) (k : ∀ a1, c1 a1 → c2 a1 → c3 a1 → g) : g := by obtain ⟨a1, p1, p2, p3⟩ := h; exact k a1 p1 p2 p3
theorem x2_2 {t1 : Sort _} {t2 : Sort _} {c1 c2 : t1 → t2 → Prop} {g : Prop} (h : ∃ a1 a2, c1 a1 a2 ∧ c2 a1 a2) (k : ∀ a1 a2, c1 a1 a2 → c2 a1 a2 → g) : g := by obtain ⟨a1, a2, p1, p2⟩ := h; exact k a1 a2 p1 p2
theorem x0_5 {c1 c2 c3 c4 c5 : Prop} {g : Prop} (h : c1 ∧ c2 ∧ c3 ∧ c4 ∧ c5) (k : c1 → c2 → c3 → c4 → c5 → g) : g := by obtain ⟨p1, p2, p3, p4, p5⟩ := h; exact k p1 p2 p3 p4 p5
theorem x2_3 {t1 : Sort _} {t2 : Sort _} {c1 c2 c3 : t1 → t2 → Prop} {g : Prop} (h : ∃ a1 a2, c1 a1 a2 ∧ c2 a1 a2 ∧ c3 a1 a2) (k : ∀ a1 a2, c1 a1 a2 → c2 a1 a2 → c3 a1 a2 → g) : g := by obtain ⟨a1, a2, p1, p2, p3⟩ := h; exact k a1 a2 p1 p2 p3
theorem x3_2 {t1 : Sort _} {t2 : Sort _} {t3 : Sort _} {c1 c2 : t1 → t2 → t3 → Prop} {g : Prop} (h : ∃ a1 a2 a3, c1 a1 a2 a3 ∧ c2 a1 a2 a3) (k : ∀ a1 a2 a3, c1 a1 a2 a3 → c2 a1 a2 a3 → g) : g := by obtain ⟨a1, a2, a3, p1, p2⟩ := h; exact k a1 a2 a3 p1 p2
theorem x3_3 {t1 : Sort _} {t2 : Sort _} {t3 : Sort _} {c1 c2 c3 : t1 → t2 → t3 → Prop} {g : Prop} (h : ∃ a1 a2 a3, c1 a1 a2 a3 ∧ c2 a1 a2 a3 ∧ c3 a1 a2 a3) (k : ∀ a1 a2 a3, c1 a1 a2 a3 → c2 a1 a2 a3 → c3 a1 a2 a3 → g) : g := by obtain ⟨a1, a2, a3, p1, p2, p3⟩ := h; exact k a1 a2 a3 p1 p2 p3
theorem x4_2 {t1 : Sort _} {t2 : Sort _} {t3 : Sort _} {t4 : Sort _} {c1 c2 : t1 → t2 → t3 → t4 → Prop} {g : Prop} (h : ∃ a1 a2 a3 a4, c1 a1 a2 a3 a4 ∧ c2 a1 a2 a3 a4) (k : ∀ a1 a2 a3 a4, c1 a1 a2 a3 a4 → c2 a1 a2 a3 a4 → g) : g := by obtain ⟨a1, a2, a3, a4, p1, p2⟩ := h; exact k a1 a2 a3 a4 p1 p2
theorem x3_4 {t1 : Sort _} {t2 : Sort _} {t3 : Sort _} {c1 c2 c3 c4 : t1 → t2 → t3 → Prop} {g : Prop} (h : ∃ a1 a2 a3, c1 a1 a2 a3 ∧ c2 a1 a2 a3 ∧ c3 a1 a2 a3 ∧ c4 a1 a2 a3) (k : ∀ a1 a2 a3, c1 a1 a2 a3 → c2 a1 a2 a3 → c3 a1 a2 a3 → c4 a1 a2 a3 → g) : g := by obtain ⟨a1, a2, a3, p1, p2, p3, p4⟩ := h; exact k a1 a2 a3 p1 p2 p3 p4
theorem x2_6 {t1 : Sort _} {t2 : Sort _} {c1 c2 c3 c4 c5 c6 : t1 → t2 → Prop} {g : Prop} (h : ∃ a1 a2, c1 a1 a2 ∧ c2 a1 a2 ∧ c3 a1 a2 ∧ c4 a1 a2 ∧ c5 a1 a2 ∧ c6 a1 a2) (k : ∀ a1 a2, c1 a1 a2 → c2 a1 a2 → c3 a1 a2 → c4 a1 a2 → c5 a1 a2 → c6 a1 a2 → g) : g := by obtain ⟨a1, a2, p1, p2, p3, p4, p5, p6⟩ := h; exact k a1 a2 p1 p2 p3 p4 p5 p6
theorem x4_4 {t1 : Sort _} {t2 : Sort _} {t3 : Sort _} {t4 : Sort _} {c1 c2 c3 c4 : t1 → t2 → t3 → t4 → Prop} {g : Prop} (h : ∃ a1 a2 a3 a4, c1 a1 a2 a3 a4 ∧ c2 a1 a2 a3 a4 ∧ c3 a1 a2 a3 a4 ∧ c4 a1 a2 a3 a4) (k : ∀ a1 a2 a3 a4, c1 a1 a2 a3 a4 → c2 a1 a2 a3 a4 → c3 a1 a2 a3 a4 → c4 a1 a2 a3 a4 → g) : g := by obtain ⟨a1, a2, a3, a4, p1, p2, p3, p4⟩ := h; exact k a1 a2 a3 a4 p1 p2 p3 p4
theorem x3_7 {t1 : Sort _} {t2 : Sort _} {t3 : Sort _} {c1 c2 c3 c4 c5 c6 c7 : t1 → t2 → t3 → Prop} {g : Prop} (h : ∃ a1 a2 a3, c1 a1 a2 a3 ∧ c2 a1 a2 a3 ∧ c3 a1 a2 a3 ∧ c4 a1 a2 a3 ∧ c5 a1 a2 a3 ∧ c6 a1 a2 a3 ∧ c7 a1 a2 a3) (k : ∀ a1 a2 a3, c1 a1 a2 a3 → c2 a1 a2 a3 → c3 a1 a2 a3 → c4 a1 a2 a3 → c5 a1 a2 a3 → c6 a1 a2 a3 → c7 a1 a2 a3 → g) : g := by obtain ⟨a1, a2, a3, p1, p2, p3, p4, p5, p6, p7⟩ := h; exact k a1 a2 a3 p1 p2 p3 p4 p5 p6 p7
theorem x8_4 {t1 : Sort _} {t2 : Sort _} {t3 : Sort _} {t4 : Sort _} {t5 : Sort _} {t6 : Sort _} {t7 : Sort _} {t8 : Sort _} {c1 c2 c3 c4 : t1 → t2 → t3 → t4 → t5 → t6 → t7 → t8 → Prop} {g : Prop} (h : ∃ a1 a2 a3 a4 a5 a6 a7 a8, c1 a1 a2 a3 a4 a5 a6 a7 a8 ∧ c2 a1 a2 a3 a4 a5 a6 a7 a8 ∧ c3 a1 a2 a3 a4 a5 a6 a7 a8 ∧ c4 a1 a2 a3 a4 a5 a6 a7 a8) (k : ∀ a1 a2 a3 a4 a5 a6 a7 a8, c1 a1 a2 a3 a4 a5 a6 a7 a8 → c2 a1 a2 a3 a4 a5 a6 a7 a8 → c3 a1 a2 a3 a4 a5 a6 a7 a8 → c4 a1 a2 a3 a4 a5 a6 a7 a8 → g) : g := by obtain ⟨a1, a2, a3, a4, a5, a6, a7, a8, p1, p2, p3, p4⟩ := h; exact k a1 a2 a3 a4 a5 a6 a7 a8 p1 p2 p3 p4
theorem y2_2 {t1 : Sort _} {t2 : Sort _} {c1 c2 : t1 → t2 → Prop} {c0 : Prop} {g : Prop} (h : c0 ∧ ∃ a1 a2, c1 a1 a2 ∧ c2 a1 a2) (k : c0 → ∀ a1 a2, c1 a1 a2 → c2 a1 a2 → g) : g := by obtain ⟨z, a1, a2, p1, p2⟩ := h; exact k z a1 a2 p1 p2
theorem y3_1 {t1 : Sort _} {t2 : Sort _} {t3 : Sort _} {c1 : t1 → t2 → t3 → Prop} {c0 : Prop} {g : Prop} (h : c0 ∧ ∃ a1 a2 a3, c1 a1 a2 a3) (k : c0 → ∀ a1 a2 a3, c1 a1 a2 a3 → g) : g := by obtain ⟨z, a1, a2, a3, p1⟩ := h; exact k z a1 a2 a3 p1
theorem y4_4 {t1 : Sort _} {t2 : Sort _} {t3 : Sort _} {t4 : Sort _} {c1 c2 c3 c4 : t1 → t2 → t3 → t4 → Prop} {c0 : Prop} {g : Prop} (h : c0 ∧ ∃ a1 a2 a3 a4, c1 a1 a2 a3 a4 ∧ c2 a1 a2 a3 a4 ∧ c3 a1 a2 a3 a4 ∧ c4 a1 a2 a3 a4) (k : c0 → ∀ a1 a2 a3 a4, c1 a1 a2 a3 a4 → c2 a1 a2 a3 a4 → c3 a1 a2 a3 a4 → c4 a1 a2 a3 a4 → g) : g := by obtain ⟨z, a1, a2, a3, a4, p1, p2, p3, p4⟩ := h; exact k z a1 a2 a3 a4 p1 p2 p3 p4
theorem y6_5 {t1 : Sort _} {t2 : Sort _} {t3 : Sort _} {t4 : Sort _} {t5 : Sort _} {t6 : Sort _} {c1 c2 c3 c4 c5 : t1 → t2 → t3 → t4 → t5 → t6 → Prop} {c0 : Prop} {g : Prop} (h : c0 ∧ ∃ a1 a2 a3 a4 a5 a6, c1 a1 a2 a3 a4 a5 a6 ∧ c2 a1 a2 a3 a4 a5 a6 ∧ c3 a1 a2 a3 a4 a5 a6 ∧ c4 a1 a2 a3 a4 a5 a6 ∧ c5 a1 a2 a3 a4 a5 a6) (k : c0 → ∀ a1 a2 a3 a4 a5 a6, c1 a1 a2 a3 a4 a5 a6 → c2 a1 a2 a3 a4 a5 a6 → c3 a1 a2 a3 a4 a5 a6 → c4 a1 a2 a3 a4 a5 a6 → c5 a1 a2 a3 a4 a5 a6 → g) : g := by obtain ⟨z, a1, a2, a3, a4, a5, a6, p1, p2, p3, p4, p5⟩ := h; exact k z a1 a2 a3 a4 a5 a6 p1 p2 p3 p4 p5
theorem y6_6 {t1 : Sort _} {t2 : Sort _} {t3 : Sort _} {t4 : Sort _} {t5 : Sort _} {t6 : Sort _} {c1 c2 c3 c4 c5 c6 : t1 → t2 → t3 → t4 → t5 → t6 → Prop} {c0 : Prop} {g : Prop} (h : c0 ∧ ∃ a1 a2 a3 a4 a5 a6, c1 a1 a2 a3 a4 a5 a6 ∧ c2 a1 a2 a3 a4 a5 a6 ∧ c3 a1 a2 a3 a4 a5 a6 ∧ c4 a1 a2 a3 a4 a5 a6 ∧ c5 a1 a2 a3 a4 a5 a6 ∧ c6 a1 a2 a3 a4 a5 a6) (k : c0 → ∀ a1 a2 a3 a4 a5 a6, c1 a1 a2 a3 a4 a5 a6 → c2 a1 a2 a3 a4 a5 a6 → c3 a1 a2 a3 a4 a5 a6 → c4 a1 a2 a3 a4 a5 a6 → c5 a1 a2 a3 a4 a5 a6 → c6 a1 a2 a3 a4 a5 a6 → g) : g := by obtain ⟨z, a1, a2, a3, a4, a5, a6, p1, p2, p3, p4, p5, p6⟩ := h; exact k z a1 a2 a3 a4 a5 a6 p1 p2 p3 p4 p5 p6
theorem ev_2 {P : Params} : PySem.W.findIn (Mine.KF P) (PySem.Value.ref Mine.a_Acc) (PySem.Str.ofString "__getattribute__") = Option.some (Option.some (PySem.Value.builtin "list.__getattribute__")) := by kernel_rfl
theorem ev_3 {P : Params} : PySem.W.findIn (Mine.KF P) (PySem.Value.ref Mine.a_Acc) (PySem.Str.ofString "__getitem__") = Option.some (Option.some (PySem.Value.builtin "list.__getitem__")) := by kernel_rfl
theorem ev_4 {P : Params} : PySem.W.findIn (Mine.KF P) (PySem.Value.ref Mine.a_Acc) (PySem.Str.ofString "__init__") = Option.some (Option.some (PySem.Value.ref 132)) := by kernel_rfl
theorem ev_5 {P : Params} : PySem.W.findIn (Mine.KF P) (PySem.Value.ref Mine.a_Acc) (PySem.Str.ofString "__iter__") = Option.some (Option.some (PySem.Value.builtin "list.__iter__")) := by kernel_rfl
theorem ev_6 {P : Params} : PySem.W.findIn (Mine.KF P) (PySem.Value.ref Mine.a_Acc) (PySem.Str.ofString "__len__") = Option.some (Option.some (PySem.Value.ref 162)) := by kernel_rfl
theorem ev_7 {P : Params} : PySem.W.findIn (Mine.KF P) (PySem.Value.ref Mine.a_Acc) (PySem.Str.ofString "__setattr__") = Option.some (Option.some (PySem.Value.builtin "object.__setattr__")) := by kernel_rfl
theorem ev_8 {P : Params} : PySem.W.findIn (Mine.KF P) (PySem.Value.ref Mine.a_Acc) (PySem.Str.ofString "__setitem__") = Option.some (Option.some (PySem.Value.builtin "list.__setitem__")) := by kernel_rfl
theorem ev_9 {P : Params} : PySem.W.findIn (Mine.KF P) (PySem.Value.ref Mine.a_Acc) (PySem.Str.ofString "__str__") = Option.some (Option.some (PySem.Value.ref 169)) := by kernel_rfl
theorem ev_11 {P : Params} : PySem.W.findIn (Mine.KF P) (PySem.Value.ref Mine.a_Acc) (PySem.Str.ofString "append") = Option.some (Option.some (PySem.Value.builtin "list.append")) := by kernel_rfl
theorem ev_12 {P : Params} : PySem.W.findIn (Mine.KF P) (PySem.Value.ref Mine.a_Acc) (PySem.Str.ofString "is_onlyws") = Option.some (Option.some (PySem.Value.ref 184)) := by kernel_rfl
theorem ev_13 {P : Params} : PySem.W.findIn (Mine.KF P) (PySem.Value.ref Mine.a_Acc) (PySem.Str.ofString "part_count") = Option.some (Option.some (PySem.Value.ref 192)) := by kernel_rfl
theorem ev_14 {P : Params} : PySem.W.findIn (Mine.KF P) (PySem.Value.ref Mine.a_Acc) (PySem.Str.ofString "pop") = Option.some (Option.some (PySem.Value.ref 155)) := by kernel_rfl
theorem ev_15 {P : Params} : PySem.W.findIn (Mine.KF P) (PySem.Value.ref Mine.a_Acc) (PySem.Str.ofString "pop_from") = Option.some (Option.some (PySem.Value.ref 147)) := by kernel_rfl
theorem ev_16 {P : Params} : PySem.W.findIn (Mine.KF P) (PySem.Value.ref Mine.a_Acc) (PySem.Str.ofString "push") = Option.some (Option.some (PySem.Value.ref 139)) := by kernel_rfl
theorem ev_17 {P : Params} : PySem.W.findIn (Mine.KF P) (PySem.Value.ref Mine.a_Acc) (PySem.Str.ofString "push") = Option.some (Option.some (PySem.Value.ref Mine.a_Acc_push)) := by kernel_rfl
theorem ev_18 {P : Params} : PySem.W.findIn (Mine.KF P) (PySem.Value.ref Mine.a_Acc) (PySem.Str.ofString "reset") = Option.some (Option.some (PySem.Value.ref 177)) := by kernel_rfl
theorem ev_20 {P : Params} : PySem.W.findIn (Mine.KF P) (PySem.Value.ref Mine.a_VF) (PySem.Str.ofString "__getattribute__") = Option.some (Option.some (PySem.Value.builtin "object.__getattribute__")) := by kernel_rfl
theorem ev_21 {P : Params} : PySem.W.findIn (Mine.KF P) (PySem.Value.ref Mine.a_VF) (PySem.Str.ofString "__init__") = Option.some (Option.some (PySem.Value.ref 52)) := by kernel_rfl
theorem ev_22 {P : Params} : PySem.W.findIn (Mine.KF P) (PySem.Value.ref Mine.a_VF) (PySem.Str.ofString "__init__") = Option.some (Option.some (PySem.Value.ref Mine.a_VF_dinit)) := by kernel_rfl
theorem ev_23 {P : Params} : PySem.W.findIn (Mine.KF P) (PySem.Value.ref Mine.a_VF) (PySem.Str.ofString "__setattr__") = Option.some (Option.some (PySem.Value.builtin "object.__setattr__")) := by kernel_rfl
theorem ev_24 {P : Params} : PySem.W.findIn (Mine.KF P) (PySem.Value.ref Mine.a_VF) (PySem.Str.ofString "_append_chunk") = Option.some (Option.some (PySem.Value.ref 108)) := by kernel_rfl
theorem ev_31 {P : Params} : PySem.W.findIn (Mine.KF P) (PySem.Value.ref Mine.a_VF) (PySem.Str.ofString "_str") = Option.some (Option.some (PySem.Value.ref 59)) := by kernel_rfl
theorem ev_32 {P : Params} : PySem.W.findIn (Mine.KF P) (PySem.Value.ref Mine.a_VF) (PySem.Str.ofString "newline") = Option.some (Option.some (PySem.Value.ref 73)) := by kernel_rfl
theorem ev_33 {P : Params} : PySem.W.findIn (Mine.KF P) (PySem.Value.type "list_iterator") (PySem.Str.ofString "__next__") = Option.some (Option.some (PySem.Value.builtin "list_iterator.__next__")) := by kernel_rfl
theorem ev_34 {P : Params} : PySem.W.findIn (Mine.KF P) (PySem.Value.type "method_descriptor") (PySem.Str.ofString "__get__") = Option.some (Option.some (PySem.Value.builtin "method_descriptor.__get__")) := by kernel_rfl
theorem ev_36 {P : Params} : PySem.W.findIn (Mine.KF P) (PySem.Value.type "re.Pattern") (PySem.Str.ofString "__getattribute__") = Option.some (Option.some (PySem.Value.builtin "object.__getattribute__")) := by kernel_rfl
theorem ev_37 {P : Params} : PySem.W.findIn (Mine.KF P) (PySem.Value.type "re.Pattern") (PySem.Str.ofString "sub") = Option.some (Option.some (PySem.Value.builtin "re.Pattern.sub")) := by kernel_rfl
theorem ev_39 {P : Params} : PySem.W.findIn (Mine.KF P) (PySem.Value.type "wrapper_descriptor") (PySem.Str.ofString "__get__") = Option.some (Option.some (PySem.Value.builtin "wrapper_descriptor.__get__")) := by kernel_rfl
theorem ev_41 {P : Params} : PySem.W.nsIn (Mine.KF P) PySem.mainGlobals (PySem.Str.ofString "CRLF") = Option.some (Option.some (PySem.Value.str (PySem.Str.ofString "\x0d\n") 593)) := by kernel_rfl
theorem ev_42 {P : Params} : PySem.W.nsIn (Mine.KF P) PySem.mainGlobals (PySem.Str.ofString "EMPTYSTRING") = Option.some (Option.some (PySem.Value.str (PySem.Str.ofString "") 293)) := by kernel_rfl
theorem ev_43 {P : Params} : PySem.W.nsIn (Mine.KF P) PySem.mainGlobals (PySem.Str.ofString "_Accumulator") = Option.some (Option.some (PySem.Value.ref 195)) := by kernel_rfl
theorem ev_44 {P : Params} : PySem.W.nsIn (Mine.KF P) PySem.mainGlobals (PySem.Str.ofString "_ValueFormatter") = Option.some (Option.some (PySem.Value.ref 111)) := by kernel_rfl
theorem ev_45 {P : Params} : PySem.W.nsIn (Mine.KF P) PySem.mainGlobals (PySem.Str.ofString "_check_parenthesis") = Option.some (Option.some (PySem.Value.ref 220)) := by kernel_rfl
theorem ev_46 {P : Params} : PySem.W.nsIn (Mine.KF P) PySem.mainGlobals (PySem.Str.ofString "_iter_escaped_chars") = Option.some (Option.some (PySem.Value.ref 206)) := by kernel_rfl
theorem ev_47 {P : Params} : PySem.W.nsIn (Mine.KF P) PySem.mainGlobals (PySem.Str.ofString "_law_mail") = Option.some (Option.some (PySem.Value.ref 259)) := by kernel_rfl
theorem ev_48 {P : Params} : PySem.W.nsIn (Mine.KF P) PySem.mainGlobals (PySem.Str.ofString "_law_nest") = Option.some (Option.some (PySem.Value.ref 254)) := by kernel_rfl
theorem ev_49 {P : Params} : PySem.W.nsIn (Mine.KF P) PySem.mainGlobals (PySem.Str.ofString "_law_queue") = Option.some (Option.some (PySem.Value.ref 249)) := by kernel_rfl
theorem ev_50 {P : Params} : PySem.W.nsIn (Mine.KF P) PySem.mainGlobals (PySem.Str.ofString "_law_rows") = Option.some (Option.some (PySem.Value.ref 242)) := by kernel_rfl
theorem ev_51 {P : Params} : PySem.W.nsIn (Mine.KF P) PySem.mainGlobals (PySem.Str.ofString "_strip_quoted_realnames") = Option.some (Option.some (PySem.Value.ref 213)) := by kernel_rfl
theorem ev_52 {P : Params} : PySem.W.nsIn (Mine.KF P) PySem.mainGlobals (PySem.Str.ofString "_twin_re_1") = Option.some (Option.some (PySem.Value.ref 225)) := by kernel_rfl
theorem ev_53 {P : Params} : PySem.W.nsIn (Mine.KF P) PySem.mainGlobals (PySem.Str.ofString "_twin_re_2") = Option.some (Option.some (PySem.Value.ref 230)) := by kernel_rfl
theorem ev_60 {P : Params} : PySem.W.nsIn (Mine.KF P) PySem.mainGlobals (PySem.Str.ofString "quotedata") = Option.some (Option.some (PySem.Value.ref 237)) := by kernel_rfl
theorem ev_66 {P : Params} : PySem.W.ownIn (Mine.KF P) (PySem.Str.ofString "__init__") (PySem.Value.type "list") = Option.some (Option.some (PySem.Value.builtin "list.__init__")) := by kernel_rfl
theorem ev_67 {P : Params} : PySem.W.ownIn (Mine.KF P) (PySem.Str.ofString "__len__") (PySem.Value.type "list") = Option.some (Option.some (PySem.Value.builtin "list.__len__")) := by kernel_rfl
theorem ev_68 {P : Params} : PySem.W.ownIn (Mine.KF P) (PySem.Str.ofString "pop") (PySem.Value.type "list") = Option.some (Option.some (PySem.Value.builtin "list.pop")) := by kernel_rfl
local macro_rules | `(tactic| ktn_no "ev_findIn") => `(tactic| with_reducible first | exact ev_2 | exact ev_3 | exact ev_4 | exact ev_5 | exact ev_6 | exact ev_7 | exact ev_8 | exact ev_9 | exact ev_11 | exact ev_12 | exact ev_13 | exact ev_14 | exact ev_15 | exact ev_16 | exact ev_17 | exact ev_18 | exact ev_20 | exact ev_21 | exact ev_22 | exact ev_23 | exact ev_24 | exact ev_31 | exact ev_32 | exact ev_33 | exact ev_34 | exact ev_36 | exact ev_37 | exact ev_39)
local macro_rules | `(tactic| ktn_no "ev_nsIn") => `(tactic| with_reducible first | exact ev_41 | exact ev_42 | exact ev_43 | exact ev_44 | exact ev_45 | exact ev_46 | exact ev_47 | exact ev_48 | exact ev_49 | exact ev_50 | exact ev_51 | exact ev_52 | exact ev_53 | exact ev_60)
local macro_rules | `(tactic| ktn_no "ev_ownIn") => `(tactic| with_reducible first | exact ev_66 | exact ev_67 | exact ev_68)
theorem ev_is {α : Type} {a : α} (b : α) (h : a = b) : a = b := h
theorem ev_sp1 {P : Params} {i : Int} {t : Tok} : specialIn (KF P) (.int i t) (PySem.Str.ofString "__index__") = some (some (.builtin "int.__index__")) := by kernel_rfl
theorem ev_sp2 {P : Params} {x : PySem.Str} {t : Tok} : specialIn (KF P) (.str x t) (PySem.Str.ofString "__call__") = some none := by kernel_rfl
theorem ev_sp3 {P : Params} : specialIn (KF P) (.ref a_Acc) (PySem.Str.ofString "__call__") = some (some (.builtin "type.__call__")) := by kernel_rfl
theorem ev_sp4 {P : Params} : specialIn (KF P) (.ref a_Acc_push) (PySem.Str.ofString "__get__") = some (some (.builtin "function.__get__")) := by kernel_rfl
theorem ev_mro {P : Params} : Option.map (fun x => x.mro) (clsIn (KF P) a_Acc) = some [Value.ref a_Acc, Value.type "list", Value.type "object"] := by kernel_rfl
theorem ev_n {α : Type} {a : Option (Option α)} (h : a = some none) : a = some none := h
theorem ev_t {a : Option Bool} (h : a = some true) : a = some true := h
theorem ev_f {a : Option Bool} (h : a = some false) : a = some false := h
theorem ev_ty1 {a : Option Value} (h : a = some (.type "function")) : a = some (.type "function") := h
theorem ev_ty2 {a : Option Value} (h : a = some (.type "wrapper_descriptor")) : a = some (.type "wrapper_descriptor") := h
theorem ev_ty3 {a : Option Value} (h : a = some (.type "method_descriptor")) : a = some (.type "method_descriptor") := h
theorem ev_ty4 {a : Option Value} (h : a = some (.type "type")) : a = some (.type "type") := h
local macro_rules | `(tactic| ktn_no "k_ev") => `(tactic| first
  | kernel_rfl!
  | exact ev_n (by kernel_rfl!) | exact ev_t (by kernel_rfl!) | exact ev_f (by kernel_rfl!) | exact ev_ty1 (by kernel_rfl!) | exact ev_ty2 (by kernel_rfl!) | exact ev_ty3 (by kernel_rfl!) | exact ev_ty4 (by kernel_rfl!)
  | ktn_no "ev_findIn" | ktn_no "ev_nsIn" | ktn_no "ev_ownIn"
  | ((with_reducible show specialIn _ _ _ = _); k_dflt (first | exact ev_sp3 | exact ev_sp4 | exact ev_sp2 | exact ev_sp1))
  | (with_reducible exact ev_mro)
  | ((fail_if_success (with_reducible first | show findIn _ _ _ = _ | show typeIn _ _ = _ | show nsIn _ _ _ = _ | show ownIn _ _ _ = _)); k_dflt rfl))
local macro_rules | `(tactic| ktn_no "no_call") => `(tactic| ((with_reducible show wpAny _ _ _ _ _ _); fail_if_success (with_reducible show wpAny _ _ (call _ _ _) _ _ _)))
local macro_rules | `(tactic| ktn_no "ast") => `(tactic| ((with_reducible show wpAny _ _ _ _ _ _); conv => arg 3; arg 1; whnf))
local macro_rules | `(tactic| ktn_no "ast_at") => `(tactic| ((with_reducible show _root_.PySem.wpAt _ _ _ _ _ _ _); conv => arg 4; arg 1; whnf))
local macro_rules | `(tactic| ktn_no "ast_seg") => `(tactic| (conv in execs _ _ => arg 1; whnf))
theorem om_lt {a b c : Nat} (h : a < b) (k : Nat.ble b c = true) : a < c := Nat.lt_of_lt_of_le h (Nat.le_of_ble_eq_true k)
theorem om_le {a b c : Nat} (h : a ≤ b) (k : Nat.ble b c = true) : a ≤ c := Nat.le_trans h (Nat.le_of_ble_eq_true k)
theorem om_eq {a b c : Nat} (h : a < b) (k : c = b) : a < c := k ▸ h
theorem om_ad {a b c : Nat} (k : Nat.ble b c = true) : a + b ≤ a + c := Nat.add_le_add_left (Nat.le_of_ble_eq_true k) _
local macro_rules | `(tactic| ktn_no "le") => `(tactic| first | (with_reducible exact Nat.le_add_right _ _) | exact om_ad rfl | exact Nat.le.intro rfl | exact Nat.le_of_ble_eq_true rfl | lia | omega)
local macro_rules | `(tactic| ktn_no "om") => `(tactic| first | exact Nat.le_of_ble_eq_true rfl | (with_reducible first | assumption | exact Nat.le_refl _ | exact Nat.le_add_right _ _) | decide | exact om_ad rfl | exact om_lt (by assumption) rfl | exact om_le (by assumption) rfl | exact om_eq (by assumption) (by assumption) | lia | omega)

noncomputable def Tab (b : Addr) : Prop := b = T1 ∨ b = T2
structure TabOk (h : Heap) : Prop where
  a : ∃ ps, h.IsCode C1 T1 ps ∧ h.TableAt C1 T1 ps
  b : ∃ ps, h.IsCode C2 T2 ps ∧ h.TableAt C2 T2 ps
structure WfB (w : World) (B : Heap) : Prop where
  k : (KF w.params).In B
  g : ∃ mg, B.Ns mainGlobals mg
  b : ∃ mb, B.Ns builtinsNs mb ∧ ∀ x : PySem.Str, x ≠ "__name__" → mb x = bootBuiltins x
  nl : B.NoLimit
  bm : ∃ mg bm ob, B.Ns mainGlobals mg ∧ mg "__builtins__" = some (.ref bm) ∧ bm ≠ builtinsNs ∧ B.get? bm = some ob ∧ ob.cls = .type "module" ∧ ob.dict = some builtinsNs ∧ ob.data = .plain
  sz : szTop ≤ B.objs.size
  t1 : B.get? T1 = none
  t2 : B.get? T2 = none
structure Rel (s₀ s : Shared) : Prop where
  os : s.os = s₀.os
  gens : ∀ (k : Nat) (x : GenState), s₀.gens[k]? = some x → s.gens[k]? = some x
  bare : (∀ x ∈ s₀.gens, x.bare = true) → ∀ x ∈ s.gens, x.bare = true
  tg : ∀ t, Tab t → ∀ ps, s₀.heap.get? t = some (tableObj ps) → ∃ more, s.heap.get? t = some (tableObj (ps ++ more))
  sz : True
theorem Rel.refl (s : Shared) : Rel s s := ⟨rfl, fun _ _ e => e, id, fun _ _ ps e => ⟨#[], by simpa using e⟩, trivial⟩
theorem Rel.trans {a b c : Shared} (x : Rel a b) (y : Rel b c) : Rel a c :=
  ⟨y.os.trans x.os, fun k g e => y.gens k g (x.gens k g e), fun h => y.bare (x.bare h), fun t ht ps e => by
    obtain ⟨m1, e1⟩ := x.tg t ht ps e
    obtain ⟨m2, e2⟩ := y.tg t ht _ e1
    exact ⟨m1 ++ m2, by rw [← Array.append_assoc]; exact e2⟩, trivial⟩
/-- a heap change that leaves the tables -/
theorem Rel.heap {s₀ s : Shared} (x : Rel s₀ s) {h' : Heap} {tk : Nat} (hz : s.heap.objs.size ≤ h'.objs.size) (ht : ∀ t, Tab t → ∀ o, s.heap.get? t = some o → h'.get? t = some o) : Rel s₀ { s with heap := h', toks := tk } :=
  ⟨x.os, x.gens, x.bare, fun t q ps e => by obtain ⟨m, e'⟩ := x.tg t q ps e; exact ⟨m, ht t q _ e'⟩, (let _ := hz; trivial)⟩
theorem TabOk.keeps {h h' : Heap} (x : TabOk h) (k : ∀ b o, h.get? b = some o → h'.get? b = some o) : TabOk h' :=
  ⟨let ⟨ps, a, b⟩ := x.a; ⟨ps, a.keeps k, b.keeps k⟩, let ⟨ps, a, b⟩ := x.b; ⟨ps, a.keeps k, b.keeps k⟩⟩
theorem TabOk.same {h h' : Heap} {a : Addr} (x : TabOk h) (hs : Heap.SameBut a h h') (ha : szTop ≤ a) : TabOk h' := by
  have n : ∀ c : Addr, c < szTop → c ≠ a := fun c hc e => by subst e; exact absurd hc (Nat.not_lt.mpr ha)
  exact ⟨let ⟨ps, p, q⟩ := x.a; ⟨ps, p.sameBut hs (n _ (by decide)) (n _ (by decide)), q.sameBut hs (n _ (by decide)) (n _ (by decide))⟩,
    let ⟨ps, p, q⟩ := x.b; ⟨ps, p.sameBut hs (n _ (by decide)) (n _ (by decide)), q.sameBut hs (n _ (by decide)) (n _ (by decide))⟩⟩

structure Fm (w : World) (B : Heap) (L : Addr) (cl : List (PySem.Str × Addr)) (s₀ : Shared) (m : PySem.Str → Option Value) (cm : PySem.Str → Option Value) (news : List (Addr × Obj)) (s : Shared) : Prop where
  wf : WfB w B
  ns : s.heap.Ns L m
  keep : ∀ b o, B.get? b = some o → s.heap.get? b = some o
  above : B.get? L = none ∧ szTop ≤ L
  nw : ∀ p ∈ news, s.heap.get? p.1 = some p.2 ∧ p.1 ≠ L ∧ B.get? p.1 = none ∧ szTop ≤ p.1
  nd : (news.map (·.1)).Nodup
  ce : ∀ n c, cl.lookup n = some c → s.heap.IsCell c (cm n)
  cd : ∀ n c, cl.lookup n = some c → c ≠ L ∧ c ∉ news.map (·.1) ∧ ¬ Tab c
  cp : ∀ n n' c, cl.lookup n = some c → cl.lookup n' = some c → n = n'
  tb : TabOk s.heap
  rl : Rel s₀ s

section
variable {w : World} {B : Heap} {L : Addr} {m : PySem.Str → Option Value} {cl : List (PySem.Str × Addr)} {cm : PySem.Str → Option Value} {news : List (Addr × Obj)} {s₀ s : Shared}
theorem Fm.szL (F : Fm w B L cl s₀ m cm news s) : szTop ≤ L := F.above.2
theorem Fm.News (F : Fm w B L cl s₀ m cm news s) : News B L s.heap news := fun p hp => let ⟨a, b, c, _⟩ := F.nw p hp; ⟨a, b, c⟩
theorem Fm.K (F : Fm w B L cl s₀ m cm news s) : (KF w.params).In s.heap := fun a o e => F.keep a o (F.wf.k a o e)
theorem Fm.at (F : Fm w B L cl s₀ m cm news s) (i : Nat) {x : Addr} {o : Obj} (e : news[i]? = some (x, o)) : s.heap.get? x = some o := (F.nw _ (List.mem_of_getElem? e)).1
theorem tab_lt {t : Addr} (h : Tab t) : t < szTop := by rcases h with rfl | rfl <;> decide
/-- any change that keeps all that stands -/
theorem Fm.grow (F : Fm w B L cl s₀ m cm news s) {h' : Heap} {tk : Nat} (k : ∀ b o, s.heap.get? b = some o → h'.get? b = some o) (hz : s.heap.objs.size ≤ h'.objs.size) : Fm w B L cl s₀ m cm news { s with heap := h', toks := tk } where
  wf := F.wf
  ns := F.ns.keeps k
  keep := fun b o e => k b o (F.keep b o e)
  above := F.above
  nw := fun p hp => let ⟨a, r⟩ := F.nw p hp; ⟨k _ _ a, r⟩
  nd := F.nd
  ce := fun n c e => (F.ce n c e).keeps k
  cd := F.cd
  cp := F.cp
  tb := F.tb.keeps k
  rl := F.rl.heap hz fun t _ o e => k t o e
theorem Fm.withD {h : Heap} {g : Array GenState} {d d₀ : Drawn} {tk tk₀ : Nat} {os : OsState} (F : Fm w B L cl s₀ m cm news ⟨h, g, d₀, tk₀, os⟩) : Fm w B L cl s₀ m cm news ⟨h, g, d, tk, os⟩ := ⟨F.wf, F.ns, F.keep, F.above, F.nw, F.nd, F.ce, F.cd, F.cp, F.tb, ⟨F.rl.os, F.rl.gens, F.rl.bare, F.rl.tg, F.rl.sz⟩⟩
theorem Fm.toks (F : Fm w B L cl s₀ m cm news s) (tk : Nat) : Fm w B L cl s₀ m cm news { s with toks := tk } := F.grow (h' := s.heap) (fun _ _ e => e) (Nat.le_refl _)
/-- a new object -/
theorem Fm.push (F : Fm w B L cl s₀ m cm news s) (o : Obj) (hf : o.isFreed = false := by rfl) {tk : Nat} : Fm w B L cl s₀ m cm ((s.heap.objs.size, o) :: news) { s with heap := s.heap.push o, toks := tk } := by
  have G := F.grow (h' := s.heap.push o) (tk := tk) (fun b ob e => Heap.get?_push_of_some _ e) (by rw [Heap.size_push]; exact Nat.le_succ _)
  have lt : ∀ {a ob}, s.heap.get? a = some ob → a ≠ s.heap.objs.size := fun e q => absurd (Heap.lt_size e) (by rw [q]; exact Nat.lt_irrefl _)
  (refine x3_2 (F.ns) ?_; intro oL es ep hL _)
  refine { G with nw := fun p hp => ?_, nd := ?_, cd := fun n c hm => ?_ }
  · rcases List.mem_cons.mp hp with rfl | hp
    · refine ⟨Heap.get?_push_size _ hf, fun e => lt hL e.symm, ?_, Nat.le_trans F.szL (Nat.le_of_lt (Heap.lt_size hL))⟩
      cases q : B.get? s.heap.objs.size with
      | none => rfl
      | some o' => exact absurd rfl (lt (F.keep _ _ q))
    · exact G.nw p hp
  · refine List.nodup_cons.mpr ⟨fun q => ?_, F.nd⟩
    (refine x1_2 (List.mem_map.mp q) ?_; intro p hp e)
    exact lt (F.nw p hp).1 e
  · (refine x0_3 (F.cd n c hm) ?_; intro a b c')
    refine ⟨a, fun q => ?_, c'⟩
    rcases List.mem_cons.mp q with e | q
    · (refine x1_2 (F.ce n c hm) ?_; intro oc hoc _)
      exact lt hoc e
    · exact b q
/-- a tracked object is turned -/
theorem Fm.set (F : Fm w B L cl s₀ m cm news s) {i : Nat} {x : Addr} {o o' : Obj} (hi : news[i]? = some (x, o)) {h' : Heap} (hs : Heap.SameBut x s.heap h') (ho : h'.get? x = some o') {tk : Nat} : Fm w B L cl s₀ m cm (news.set i (x, o')) { s with heap := h', toks := tk } := by
  have hm := List.mem_of_getElem? hi
  (refine x0_4 (F.nw _ hm) ?_; intro hx hxL hxB hxs)
  have hlt : i < news.length := (List.getElem?_eq_some_iff.mp hi).1
  have nt : ∀ t, Tab t → t ≠ x := fun t ht e => absurd (tab_lt ht) (by rw [e]; exact Nat.not_lt.mpr hxs)
  have hmap : (news.set i (x, o')).map (·.1) = news.map (·.1) := by
    rw [List.map_set]
    apply List.ext_getElem? 
    intro j
    rw [List.getElem?_set]
    split
    · rename_i hj
      subst hj
      rw [List.length_map, if_pos hlt, List.getElem?_map, hi]; rfl
    · rfl
  have hne : ∀ (j : Nat) (p : Addr × Obj), j ≠ i → news[j]? = some p → p.1 ≠ x := fun j p hj hp e => by
    have h1 : (news.map (·.1))[j]? = some x := by rw [List.getElem?_map, hp, ← e]; rfl
    have h2 : (news.map (·.1))[i]? = some x := by rw [List.getElem?_map, hi]; rfl
    have hjl : j < (news.map (·.1)).length := (List.getElem?_eq_some_iff.mp h1).1
    exact hj ((List.getElem?_inj hjl F.nd).mp (h1.trans h2.symm))
  refine { wf := F.wf, ns := F.ns.sameBut hs hxL.symm, keep := fun b o e => (hs.2 b (fun q => by rw [q, hxB] at e; cases e)).trans (F.keep b o e), above := F.above, nw := fun p hp => ?_, nd := by rw [hmap]; exact F.nd, ce := fun n c e => (F.ce n c e).sameBut hs (fun q => (F.cd n c e).2.1 (by rw [q]; exact List.mem_map_of_mem hm)), cd := fun n c e => by rw [hmap]; exact F.cd n c e, cp := F.cp, tb := F.tb.same hs hxs, rl := F.rl.heap (Nat.le_of_eq hs.1.symm) fun t ht o e => (hs.2 t (nt t ht)).trans e }
  obtain ⟨j, hj⟩ := List.getElem?_of_mem hp
  rw [List.getElem?_set] at hj
  split at hj
  · cases hj
    exact ⟨ho, hxL, hxB, hxs⟩
  · rename_i hij
    obtain ⟨a, b⟩ := F.nw p (List.mem_of_getElem? hj)
    exact ⟨(hs.2 _ (hne j p (Ne.symm hij) hj)).trans a, b⟩
/-- a local is stored -/
theorem Fm.store (F : Fm w B L cl s₀ m cm news s) {h' : Heap} {m' : PySem.Str → Option Value} (hn : h'.Ns L m') (hs : Heap.SameBut L s.heap h') {tk : Nat} : Fm w B L cl s₀ m' cm news { s with heap := h', toks := tk } := by
  have hsz := F.szL
  refine { wf := F.wf, ns := hn, keep := fun b o e => (hs.2 b (fun q => by rw [q, F.above.1] at e; cases e)).trans (F.keep b o e), above := F.above, nw := fun p hp => ?_, nd := F.nd, ce := fun n c e => (F.ce n c e).sameBut hs (F.cd n c e).1, cd := F.cd, cp := F.cp, tb := F.tb.same hs hsz, rl := F.rl.heap (Nat.le_of_eq hs.1.symm) fun t ht o e => (hs.2 t fun q => absurd (tab_lt ht) (by rw [q]; exact Nat.not_lt.mpr hsz)).trans e }
  (refine x0_3 (F.nw p hp) ?_; intro a b c)
  exact ⟨(hs.2 _ b).trans a, b, c⟩
/-- a cell is stored -/
theorem Fm.storeC (F : Fm w B L cl s₀ m cm news s) {h' : Heap} {n : PySem.Str} {c : Addr} {v : Value} (hc : cl.lookup n = some c) (hB : B.get? c = none) (hv : h'.IsCell c (some v)) (hs : Heap.SameBut c s.heap h') (hz : szTop ≤ c) {tk : Nat} :
    Fm w B L cl s₀ m (fun y => if y = n then some v else cm y) news { s with heap := h', toks := tk } := by
  (refine x0_3 (F.cd n c hc) ?_; intro cL cn cT)
  refine { wf := F.wf, ns := F.ns.sameBut hs cL.symm, keep := fun b o e => (hs.2 b (fun q => by rw [q, hB] at e; cases e)).trans (F.keep b o e), above := F.above, nw := fun p hp => ?_, nd := F.nd, ce := fun n' c' e => ?_, cd := F.cd, cp := F.cp, tb := F.tb.same hs hz, rl := F.rl.heap (Nat.le_of_eq hs.1.symm) fun t ht o e => (hs.2 t fun q => cT (q ▸ ht)).trans e }
  · obtain ⟨a, b⟩ := F.nw p hp
    exact ⟨(hs.2 _ (fun q => cn (by rw [← q]; exact List.mem_map_of_mem hp))).trans a, b⟩
  · by_cases hn : n' = n
    · subst hn
      rw [hc] at e; cases e
      simpa using hv
    · rw [if_neg hn]
      exact (F.ce n' c' e).sameBut hs fun q => hn (F.cp n' n c (q ▸ e) hc)
/-- any change that leaves all but the tables, which may grow -/
theorem Fm.moved (F : Fm w B L cl s₀ m cm news s) {s' : Shared} (k : ∀ b o, ¬ Tab b → s.heap.get? b = some o → s'.heap.get? b = some o) (tb : TabOk s'.heap) (rl : Rel s s') : Fm w B L cl s₀ m cm news s' where
  wf := F.wf
  ns := by
    (refine x3_2 (F.ns) ?_; intro oL es ep hL r)
    exact ⟨oL, es, ep, k _ _ (fun t => absurd (tab_lt t) (Nat.not_lt.mpr F.szL)) hL, r⟩
  keep := fun b o e => k b o (fun t => by rcases t with rfl | rfl; (rw [F.wf.t1] at e; cases e); (rw [F.wf.t2] at e; cases e)) (F.keep b o e)
  above := F.above
  nw := fun p hp => let ⟨a, b, c, d⟩ := F.nw p hp; ⟨k _ _ (fun t => absurd (tab_lt t) (Nat.not_lt.mpr d)) a, b, c, d⟩
  nd := F.nd
  ce := fun n c e => let ⟨oc, hoc, hd⟩ := F.ce n c e; ⟨oc, k _ _ (F.cd n c e).2.2 hoc, hd⟩
  cd := F.cd
  cp := F.cp
  tb := tb
  rl := F.rl.trans rl
theorem Fm.sub (F : Fm w B L cl s₀ m cm news s) {news' : List (Addr × Obj)} (h : news'.Sublist news) : Fm w B L cl s₀ m cm news' s :=
  { F with nw := fun p hp => F.nw p (h.subset hp), nd := F.nd.sublist (h.map _), cd := fun n c e => let ⟨a, b, d⟩ := F.cd n c e; ⟨a, fun q => b ((h.map _).subset q), d⟩ }
theorem Fm.drop (F : Fm w B L cl s₀ m cm news s) (n : Nat) : Fm w B L cl s₀ m cm (news.drop n) s := F.sub (List.drop_sublist n news)
theorem Fm.erase (F : Fm w B L cl s₀ m cm news s) (i : Nat) : Fm w B L cl s₀ m cm (news.eraseIdx i) s := F.sub (List.eraseIdx_sublist news i)

/-- what a callee may lean on: all but the tables and the tracked objects -/
noncomputable def under (s : Shared) (news : List (Addr × Obj)) : Heap := hideAll s.heap (T1 :: T2 :: news.map (·.1))
theorem Fm.under_keep (F : Fm w B L cl s₀ m cm news s) : ∀ b o, B.get? b = some o → (under s news).get? b = some o := fun b o e => by
  refine hideAll_get _ (F.keep b o e) fun q => ?_
  rcases List.mem_cons.mp q with q | q
  · rw [q, F.wf.t1] at e; cases e
  rcases List.mem_cons.mp q with q | q
  · rw [q, F.wf.t2] at e; cases e
  (refine x1_2 (List.mem_map.mp q) ?_; intro p hp e')
  have := (F.nw p hp).2.2.1
  rw [e', e] at this; cases this
theorem Fm.wf_under (F : Fm w B L cl s₀ m cm news s) : WfB w (under s news) where
  k := fun a o e => F.under_keep a o (F.wf.k a o e)
  g := let ⟨mg, h⟩ := F.wf.g; ⟨mg, h.keeps F.under_keep⟩
  b := let ⟨mb, h, r⟩ := F.wf.b; ⟨mb, h.keeps F.under_keep, r⟩
  nl := F.wf.nl.keeps F.under_keep
  bm := let ⟨mg, bm, ob, a, b, c, d, e⟩ := F.wf.bm; ⟨mg, bm, ob, a.keeps F.under_keep, b, c, F.under_keep _ _ d, e⟩
  sz := by
    show szTop ≤ (hideAll s.heap _).objs.size
    rw [hideAll_size]
    (refine x3_2 (F.ns) ?_; intro oL es ep hL _)
    exact Nat.le_trans F.szL (Nat.le_of_lt (Heap.lt_size hL))
  t1 := hideAll_none _ (.head _)
  t2 := hideAll_none _ (.tail _ (.head _))
theorem tab_ne {t b : Addr} (h : Tab t) (hb : szTop ≤ b) : b ≠ t := fun e => absurd (tab_lt h) (by rw [← e]; exact Nat.not_lt.mpr hb)
theorem Fm.under_L (F : Fm w B L cl s₀ m cm news s) {o : Obj} (e : s.heap.get? L = some o) : (under s news).get? L = some o := by
  refine hideAll_get _ e fun q => ?_
  rcases List.mem_cons.mp q with q | q
  · exact tab_ne (.inl rfl) F.szL q
  rcases List.mem_cons.mp q with q | q
  · exact tab_ne (.inr rfl) F.szL q
  (refine x1_2 (List.mem_map.mp q) ?_; intro p hp e')
  exact (F.nw p hp).2.1 e'
theorem Fm.under_cell (F : Fm w B L cl s₀ m cm news s) {n : PySem.Str} {c : Addr} (hc : cl.lookup n = some c) {o : Obj} (e : s.heap.get? c = some o) : (under s news).get? c = some o := by
  (refine x0_3 (F.cd n c hc) ?_; intro _ cn cT)
  refine hideAll_get _ e fun q => ?_
  rcases List.mem_cons.mp q with q | q
  · exact cT (.inl q)
  rcases List.mem_cons.mp q with q | q
  · exact cT (.inr q)
  · exact cn q
/-- back from a callee -/
theorem Fm.leave (F : Fm w B L cl s₀ m cm news s) {L' : Addr} {m' cm' : PySem.Str → Option Value} {cl' : List (PySem.Str × Addr)} {news' : List (Addr × Obj)} {s' : Shared} (G : Fm w (under s news) L' cl' s m' cm' news' s') : Fm w B L cl s₀ m cm news' s' := by
  (refine x3_2 (F.ns) ?_; intro oL es ep hL r)
  have kL := F.under_L hL
  refine { wf := F.wf, ns := ⟨oL, es, ep, G.keep _ _ kL, r⟩, keep := fun b o e => G.keep b o (F.under_keep b o e), above := F.above, nw := fun p hp => ?_, nd := G.nd, ce := fun n c e => ?_, cd := fun n c e => ?_, cp := F.cp, tb := G.tb, rl := F.rl.trans G.rl }
  · (refine x0_4 (G.nw p hp) ?_; intro a b c d)
    refine ⟨a, fun q => ?_, ?_, d⟩
    · rw [q, kL] at c; cases c
    · cases q : B.get? p.1 with
      | none => rfl
      | some o => rw [F.under_keep _ _ q] at c; cases c
  · (refine x1_2 (F.ce n c e) ?_; intro oc hoc hd)
    exact ⟨oc, G.keep _ _ (F.under_cell e hoc), hd⟩
  · (refine x1_2 (F.ce n c e) ?_; intro oc hoc hd)
    refine ⟨(F.cd n c e).1, fun q => ?_, (F.cd n c e).2.2⟩
    (refine x1_2 (List.mem_map.mp q) ?_; intro p hp e')
    have := (G.nw p hp).2.2.1
    rw [e', F.under_cell e hoc] at this; cases this
/-- into a callee's frame -/
theorem Fm.enter (F : Fm w B L cl s₀ m cm news s) {L' : Addr} {m' cm' : PySem.Str → Option Value} {cl' : List (PySem.Str × Addr)} {h₁ : Heap} {tk : Nat} (hL : L' = s.heap.objs.size) (hns : h₁.Ns L' m') (hk : ∀ b o, s.heap.get? b = some o → h₁.get? b = some o) (hz : s.heap.objs.size ≤ h₁.objs.size)
    (ce : ∀ n c, cl'.lookup n = some c → h₁.IsCell c (cm' n)) (cd : ∀ n c, cl'.lookup n = some c → c ≠ L' ∧ c ∉ news.map (·.1) ∧ ¬ Tab c) (cp : ∀ n n' c, cl'.lookup n = some c → cl'.lookup n' = some c → n = n') :
    Fm w (under s news) L' cl' s m' cm' news { s with heap := h₁, toks := tk } where
  wf := F.wf_under
  ns := hns
  keep := fun b o e => hk b o (of_hideAll _ e)
  above := by
    refine ⟨?_, by rw [hL]; exact Nat.le_trans F.szL (Nat.le_of_lt F.ns.lt)⟩
    cases q : (under s news).get? L' with
    | none => rfl
    | some o => exact absurd (Heap.lt_size q) (by rw [hL]; show ¬ s.heap.objs.size < (hideAll s.heap _).objs.size; rw [hideAll_size]; exact Nat.lt_irrefl _)
  nw := fun p hp => let ⟨a, b, c, d⟩ := F.nw p hp; ⟨hk _ _ a, by rw [hL]; exact Nat.ne_of_lt (Heap.lt_size a), hideAll_none _ (.tail _ (.tail _ (List.mem_map_of_mem hp))), d⟩
  nd := F.nd
  ce := ce
  cd := cd
  cp := cp
  tb := F.tb.keeps hk
  rl := (Rel.refl s).heap hz fun t _ o e => hk t o e
end
structure Room (n : Nat) (A : Around) : Prop where
  handled : A.handled = none
  depth : A.depth + n ≤ 800
  units : A.units + 50 * n ≤ 9000
  frames : ∃ l, A.frames = some l
theorem Room.deeper {n : Nat} {A : Around} {env : Env} (R : Room (n + 1) A) : Room n (A.deeper env) :=
  ⟨R.handled, by show A.depth + 1 + n ≤ 800; have := R.depth; (first | lia | omega), by show A.units + 3 + 50 * n ≤ 9000; have := R.units; (first | lia | omega), let ⟨l, h⟩ := R.frames; ⟨env :: l, by show A.frames.map _ = _; rw [h]; rfl⟩⟩
theorem Room.less {n k : Nat} {A : Around} (R : Room n A) (h : k ≤ n) : Room k A := ⟨R.handled, by have := R.depth; (first | lia | omega), by have := R.units; (first | lia | omega), R.frames⟩
theorem Room.in1 {n : Nat} {A : Around} (R : Room (n + 1) A) : Room n A.in1 := ⟨R.handled, by show A.depth + n ≤ 800; have := R.depth; (first | lia | omega), by show A.units + 1 + 50 * n ≤ 9000; have := R.units; (first | lia | omega), R.frames⟩
theorem Room.lt {n : Nat} {A : Around} (R : Room n A) : A.depth < recursionLimit := by have := R.depth; show A.depth < 1000; (first | lia | omega)
theorem Room.cl {n : Nat} {A : Around} (R : Room n A) : A.units < cLine := by have := R.units; show A.units < 9900; (first | lia | omega)

noncomputable abbrev M (w : World) : Model := model pw w
noncomputable abbrev bnd (binds : List (PySem.Str × Value)) : PySem.Str → Option Value := fun x => binds.reverse.lookup x
/-- the end of a callee: its frame is left -/
noncomputable def Back (w : World) (B : Heap) (L : Addr) (m : PySem.Str → Option Value) (cl : List (PySem.Str × Addr)) (cm : PySem.Str → Option Value) (news : List (Addr × Obj)) (s₀ s : Shared) (Q : Value → Shared → Prop) (v : Value) (s' : Shared) : Prop :=
  ∃ L' m' cl' cm' news', Fm w (under s news) L' cl' s m' cm' news' s' ∧ (Fm w B L cl s₀ m cm news' s' → Q v s')
section
variable {w : World} {B : Heap} {L : Addr} {m : PySem.Str → Option Value} {cl : List (PySem.Str × Addr)} {cm : PySem.Str → Option Value} {news : List (Addr × Obj)} {s₀ s : Shared} {A : Around} {E : Value → Shared → Prop} {Q : Value → Shared → Prop}
theorem Back.go (F : Fm w B L cl s₀ m cm news s) {v : Value} {s' : Shared} (h : Back w B L m cl cm news s₀ s Q v s') : Q v s' := let ⟨_, _, _, _, _, G, k⟩ := h; k (F.leave G)
theorem Back.of {L' : Addr} {m' cm' : PySem.Str → Option Value} {cl' : List (PySem.Str × Addr)} {news' : List (Addr × Obj)} {v : Value} {s' : Shared} (G : Fm w (under s news) L' cl' s m' cm' news' s') (k : Fm w B L cl s₀ m cm news' s' → Q v s') : Back w B L m cl cm news s₀ s Q v s' := ⟨L', m', cl', cm', news', G, k⟩
noncomputable def retV : Flow → Value
  | .ret v => v
  | _ => .none

theorem call_fn {n : Nat} {f : Addr} {oc : Value} {od : Option Addr} {osl : Array (Option Value)} {fd : FuncData} {body : List Stmt} {pos : List Value} {kw : List (PySem.Str × Value)} {binds : List (PySem.Str × Value)} {cmF : PySem.Str → Option Value}
    (R : Room (n + 1) A) (F : Fm w B L cl s₀ m cm news s)
    (ho : (KF w.params).lookup f = some ⟨oc, od, .func fd, osl⟩) (hcd : codeIn (KF w.params) fd.code fd.qualname = true) (hbody : fd.body = .stmts body) (hbind : BindsTo s fd ⟨pos, kw⟩ binds)
    (hcell : (fd.scope.names.all fun x => decide (x.2 ≠ .cell)) = true) (hloc : (binds.all fun x => decide (fd.scope.names.lookup x.1 = some .local)) = true)
    (hcl : ∀ n c, fd.closure.lookup n = some c → c < szTop ∧ ¬ Tab c ∧ ∃ o, (KF w.params).lookup c = some o ∧ o.data = .cell (cmF n)) (hcp : ∀ n n' c, fd.closure.lookup n = some c → fd.closure.lookup n' = some c → n = n')
    (h : ∀ Qo : Flow → Shared → Prop, (∀ fl s', Back w B L m cl cm news s₀ s Q (retV fl) s' → Qo fl s') → ∀ L' s₁, L' = s.heap.objs.size → Fm w (under s news) L' fd.closure s (bnd binds) cmF news s₁ → Room n (A.deeper (callEnv fd L' f)) →
      wpAny (M w) (A.deeper (callEnv fd L' f)) (execs body (callEnv fd L' f)) Qo (fun _ _ => False) s₁)
    (hco : fd.scope.isCoroutine = false) (hgen : fd.scope.isGenerator = false) (hk : fd.scope.kind = .function) : wpAny (M w) A (call (.ref f) pos kw) Q E s := by
  have X := F.K
  refine wpAny_call (codeAny_call_def (fd := fd) (body := body) (binds := binds) R.lt (X _ _ ho) rfl (F.wf.nl.keeps F.keep) (codeRec_of X hcd) hbody hbind
    (fun x hx => of_decide_eq_true (List.all_eq_true.mp hcell x hx)) (locs hloc) (fun h₁ hns hk₁ => ?_) hco hgen hk)
  have hz : s.heap.objs.size < h₁.objs.size := hns.lt
  refine wpAny_mono (h _ (fun _ _ x => x) s.heap.objs.size _ rfl (F.enter rfl hns hk₁ (Nat.le_of_lt hz) (fun n c e => ?_) (fun n c e => ?_) hcp) R.deeper) (fun fl s' hb => ?_) (fun _ _ x => x.elim)
  · obtain ⟨_, _, o, ho, hd⟩ := hcl n c e
    exact ⟨o, hk₁ _ _ (X _ _ ho), hd⟩
  · obtain ⟨hs, hT, o, ho, hd⟩ := hcl n c e
    refine ⟨Nat.ne_of_lt (Heap.lt_size (X _ _ ho)), fun q => ?_, hT⟩
    (refine x1_2 (List.mem_map.mp q) ?_; intro p hp e')
    exact absurd hs (by rw [← e']; exact Nat.not_lt.mpr (F.nw p hp).2.2.2)
  · cases fl <;> exact hb.go F
end

section
variable {M : Model} {A : Around} {E : Value → Shared → Prop} {K : Frag} {x : Addr} {ox : Obj} {v t : Value} {name : PySem.Str} {h : Heap} {g : Array GenState} {d : Drawn} {tk : Nat} {os : OsState}
theorem st_type {Q : Value → Shared → Prop} (hx : h.get? x = some ox) (q : Q ox.cls ⟨h, g, d, tk, os⟩) : wpAny M A (typeOf (.ref x)) Q E ⟨h, g, d, tk, os⟩ := Looks.at (M := M) ((Looks.ld hx).andThen .now) q
theorem st_typeK {Q : Value → Shared → Prop} (X : K.In h) (e : typeIn K v = some t) (q : Q t ⟨h, g, d, tk, os⟩) : wpAny M A (typeOf v) Q E ⟨h, g, d, tk, os⟩ := (looks_typeIn X e).at q
theorem st_special {Q : Option Value → Shared → Prop} {r : Option Value} (hx : h.get? x = some ox) (X : K.In h) (e : findIn K ox.cls name = some r) (q : Q r ⟨h, g, d, tk, os⟩) : wpAny M A (specialOf (.ref x) name) Q E ⟨h, g, d, tk, os⟩ :=
  wpAny_bind (st_type hx ((looks_findIn X e).at q))
theorem st_specialK {Q : Option Value → Shared → Prop} {r : Option Value} (X : K.In h) (e : specialIn K v name = some r) (q : Q r ⟨h, g, d, tk, os⟩) : wpAny M A (specialOf v name) Q E ⟨h, g, d, tk, os⟩ := (looks_specialIn X e).at q
theorem st_lookup {Q : Option Value → Shared → Prop} {r : Option Value} (X : K.In h) (e : findIn K t name = some r) (q : Q r ⟨h, g, d, tk, os⟩) : wpAny M A (typeLookup t name) Q E ⟨h, g, d, tk, os⟩ := (looks_findIn X e).at q
theorem st_sub {Q : Bool → Shared → Prop} {r : Bool} {b : Value} (X : K.In h) (e : subIn K t b = some r) (q : Q r ⟨h, g, d, tk, os⟩) : wpAny M A (isSubtype t b) Q E ⟨h, g, d, tk, os⟩ := (looks_subIn X e).at q
theorem st_inst {Q : Bool → Shared → Prop} {r : Bool} {b : Value} (hx : h.get? x = some ox) (X : K.In h) (e : subIn K ox.cls b = some r) (q : Q r ⟨h, g, d, tk, os⟩) : wpAny M A (isInstance (.ref x) b) Q E ⟨h, g, d, tk, os⟩ :=
  wpAny_bind (st_type hx (st_sub X e q))
theorem st_instK {Q : Bool → Shared → Prop} {r : Bool} {b : Value} (X : K.In h) (e : instIn K v b = some r) (q : Q r ⟨h, g, d, tk, os⟩) : wpAny M A (isInstance v b) Q E ⟨h, g, d, tk, os⟩ := (looks_instIn X e).at q
theorem looks_inst {b : Value} {r : Bool} (hx : h.get? x = some ox) (X : K.In h) (e : subIn K ox.cls b = some r) : Looks M h (isInstance (.ref x) b) r := ((Looks.ld hx).andThen .now).andThen (looks_subIn X e)
theorem st_bindS {f self tf : Value} {Q : Value × List Value → Shared → Prop} (X : K.In h) (e : typeIn K f = some tf) (ht : (tf == .type "function" || tf == .type "method_descriptor" || tf == .type "wrapper_descriptor") = true) (q : Q (f, [self]) ⟨h, g, d, tk, os⟩) : wpAny M A (bindSpecial f self) Q E ⟨h, g, d, tk, os⟩ := by
  unfold bindSpecial
  refine wpAny_bind (st_typeK X e ?_)
  rw [ht, if_pos rfl]
  exact wpAny_pure q
theorem st_updateSeq {c : Value} {dd : Option Addr} {xs : Array Value} {n : Nat} {sl : Array (Option Value)} {f : Array Value → Array Value} {Q : Unit → Shared → Prop} (hx : h.get? x = some ⟨c, dd, .seq xs n, sl⟩) (hz : xs.size ≤ 100000) (hz' : (f xs).size ≤ 200000)
    (q : ∀ h' n', Heap.SameBut x h h' → h'.get? x = some ⟨c, dd, .seq (f xs) n', sl⟩ → Q () ⟨h', g, d, tk, os⟩) : wpAny M A (updateSeq x f) Q E ⟨h, g, d, tk, os⟩ :=
  wpAny_updateSeq hx rfl (q _ (if (f xs).size == xs.size then n else n + 1) (Heap.SameBut.update _ _ _) (Heap.get?_update_self _ hx rfl)) (Nat.le_trans hz (by decide)) (Nat.le_trans hz' (by decide))
theorem pushIn {o : Obj} (X : K.In h) : K.In (h.push o) := X.keeps fun _ _ e => Heap.get?_push_of_some _ e
end
theorem looks_idict {K : Frag} {M : Model} {h : Heap} {x C dx : Addr} {ox : Obj} {b : Bool} (X : K.In h) (hx : h.get? x = some ox) (hcl : ox.cls = .ref C) (hh : hasDictIn K C = true) (hd : ox.dict = some dx) : Looks M h (instanceDict x b) (some dx) := by
  (refine x1_2 (any_some hh) ?_; intro cd hc hh)
  intro A Q E s k q
  unfold instanceDict
  obtain ⟨c, dd, dt, sl⟩ := ox
  dsimp only at hcl hd
  subst hcl hd
  refine wpAny_bind (wpAny_loadPart (k _ _ hx) ?_)
  dsimp only
  refine wpAny_bind ((looks_clsIn X hc) A _ E s k ?_)
  rw [hh]
  exact wpAny_pure q
/-- what an object's dict says -/
structure EsOk (es : List DictEntry) (m : PySem.Str → Option Value) (c : Nat) : Prop where
  keys : ∀ e ∈ es, ∃ n t, e.key = .str n t
  find : ∀ n, (es.find? (·.key.isStr n)).map (·.val) = m n
  len : es.length ≤ c
noncomputable def upd (m : PySem.Str → Option Value) (n : PySem.Str) (v : Value) : PySem.Str → Option Value := fun y => if y = n then some v else m y
theorem EsOk.nil (c : Nat) : EsOk [] (fun _ => none) c := ⟨fun _ h => (nomatch h), fun _ => rfl, Nat.zero_le _⟩
theorem EsOk.look {es : List DictEntry} {m : PySem.Str → Option Value} {c k : Nat} (H : EsOk es m c) (n : PySem.Str) : lookIn n (dictOf es k) = some (m n) := by
  rw [lookIn_dict]
  unfold getL
  have q : es.any (·.refKey) = false := by
    rw [List.any_eq_false]; intro e he; obtain ⟨n, t, h⟩ := H.keys e he; simp [DictEntry.refKey, h]
  have hc := H.find n
  cases z : es.find? (fun x => x.key.isStr n) with
  | none => rw [z] at hc; rw [← hc, q]; rfl
  | some e => rw [z] at hc; rw [← hc]; rfl
theorem isStr_str (n name : PySem.Str) (t : Tok) : (Value.str name t).isStr n = decide (n = name) := by
  show (name == n) = _
  by_cases h : n = name
  · subst h; simp
  · have : ¬ name = n := fun e => h e.symm
    simp [h, this]
theorem putL_ok {name : PySem.Str} {hsh : Int} {t : Tok} {v : Value} : ∀ {es : List DictEntry} {m : PySem.Str → Option Value} {c : Nat}, EsOk es m c → EsOk (putL name hsh (.str name t) v es) (upd m name v) (c + 1)
  | [], m, c, H => ⟨fun e he => by simp [putL] at he; subst he; exact ⟨_, _, rfl⟩, fun n => by
      have := H.find n
      simp only [putL, List.find?_cons, isStr_str, List.find?_nil, upd]
      by_cases q : n = name
      · simp [q]
      · simpa [q] using this, by simp [putL]⟩
  | e :: r, m, c, H => by
    (refine x2_1 (H.keys e (.head _)) ?_; intro n₀ t₀ he)
    have R : EsOk r (fun n => (r.find? (·.key.isStr n)).map (·.val)) (c - 1) := ⟨fun e h => H.keys e (.tail _ h), fun _ => rfl, by have := H.len; simp at this; (first | lia | omega)⟩
    have hl := H.len
    simp at hl
    unfold putL
    have hs : e.key.isStr name = decide (name = n₀) := by rw [he]; exact isStr_str _ _ _
    by_cases q : name = n₀
    · rw [hs, decide_eq_true q, if_pos rfl]
      refine ⟨fun x hx => ?_, fun n => ?_, by simp; (first | lia | omega)⟩
      · rcases List.mem_cons.mp hx with rfl | hx
        · exact ⟨n₀, t₀, he⟩
        · exact H.keys x (.tail _ hx)
      · have := H.find n
        simp only [List.find?_cons, he, isStr_str, upd] at this ⊢
        by_cases z : n = n₀
        · simp [z, q]
        · simpa [z, q] using this
    · rw [hs, decide_eq_false q, if_neg Bool.false_ne_true]
      have ih := putL_ok (name := name) (hsh := hsh) (t := t) (v := v) R
      refine ⟨fun x hx => ?_, fun n => ?_, by have := ih.len; simp; (first | lia | omega)⟩
      · rcases List.mem_cons.mp hx with rfl | hx
        · exact ⟨n₀, t₀, he⟩
        · exact ih.keys x hx
      · have := H.find n
        have i2 := ih.find n
        simp only [List.find?_cons, he, isStr_str, upd] at this i2 ⊢
        by_cases z : n = n₀
        · have zz : ¬ n = name := fun e => q (e ▸ z)
          simp [z] at this ⊢
          rw [if_neg (fun e => q e.symm)]; exact this
        · simp only [z, decide_false] at this ⊢
          rw [i2, this]
theorem putL_len {name : PySem.Str} {hsh : Int} {t : Tok} {v : Value} : ∀ {es : List DictEntry}, (es.find? (·.key.isStr name)).isSome → (putL name hsh (.str name t) v es).length = es.length
  | [], H => by cases H
  | e :: r, H => by
    unfold putL
    cases q : e.key.isStr name with
    | true => simp
    | false =>
      rw [List.find?_cons, q] at H
      simp [putL_len (name := name) (hsh := hsh) (t := t) (v := v) H]
theorem upd_upd {m : PySem.Str → Option Value} {n : PySem.Str} {v v' : Value} : upd (upd m n v) n v' = upd m n v' := by
  funext y; unfold upd; by_cases h : y = n <;> simp [h]
section
variable {M : Model} {A : Around} {E : Value → Shared → Prop} {h : Heap} {g : Array GenState} {d : Drawn} {tk : Nat} {os : OsState}
theorem st_newTuple {vs : List Value} {Q : Value → Shared → Prop} (hz : vs.length ≤ 1000) (q : Q (.ref h.objs.size) ⟨h.push ⟨.type "tuple", none, .seq vs.toArray 0, #[]⟩, g, d, tk, os⟩) : wpAny M A (newTuple vs) Q E ⟨h, g, d, tk, os⟩ :=
  wpAny_newObj_type q (by show vs.toArray.size ≤ sizeLine; have : (1000 : Nat) ≤ sizeLine := by decide
                          simp; (first | lia | omega))
theorem st_newList {vs : List Value} {Q : Value → Shared → Prop} (hz : vs.length ≤ 1000) (q : Q (.ref h.objs.size) ⟨h.push ⟨.type "list", none, .seq vs.toArray 0, #[]⟩, g, d, tk, os⟩) : wpAny M A (newList vs) Q E ⟨h, g, d, tk, os⟩ :=
  wpAny_newObj_type q (by show vs.toArray.size ≤ sizeLine; have : (1000 : Nat) ≤ sizeLine := by decide
                          simp; (first | lia | omega))
theorem st_nsSet {a : Addr} {es : List DictEntry} {k c : Nat} {m : PySem.Str → Option Value} {name : PySem.Str} {v : Value} {Q : Unit → Shared → Prop} (hd : h.get? a = some (dictOf es k)) (H : EsOk es m c)
    (q : ∀ h' k' es', Heap.SameBut a h h' → h'.get? a = some (dictOf es' k') → EsOk es' (upd m name v) (if (m name).isSome then c else c + 1) → Q () ⟨h', g, d, tk + 1, os⟩) : wpAny M A (nsSet a name v) Q E ⟨h, g, d, tk, os⟩ := by
  unfold nsSet
  refine wpAny_bind (wpAny_bind (wpAny_askSetting (wpAny_pure (wpAny_bind (wpAny_mkText (wpAny_bind (wpAny_loadPart hd ?_)))))))
  dsimp only
  have hany : es.toArray.any (·.refKey) = false := by
    rw [← Array.any_toList, List.any_eq_false]; intro e he; obtain ⟨n, t, h⟩ := H.keys e he; simp [DictEntry.refKey, h]
  simp only [aRefKeyMayBeTheName_eq, aRefKeyMayBeTheNameByArray, hany, Bool.and_false, Bool.false_eq_true, if_false]
  refine wpAny_updatePart hd (q _ (putN name es k) (putL name (PyData.keyHash M.w.params name) (.str name tk) v es) (Heap.SameBut.update _ _ _) ?_ ?_)
  refine (Heap.get?_update_self _ hd ?_).trans ?_
  · show Obj.isFreed (Obj.putName name (PyData.keyHash M.w.params name) (.str name tk) v (dictOf es k)) = false
    rw [putName_dict]; rfl
  · exact congrArg some (putName_dict _ _ _ _ _ _)
  · have z := putL_ok (name := name) (hsh := PyData.keyHash M.w.params name) (t := tk) (v := v) H
    split
    · rename_i hs
      have := H.find name
      refine ⟨z.keys, z.find, ?_⟩
      rw [putL_len (by rw [← H.find name] at hs; simpa using hs)]
      exact H.len
    · exact z
end
local macro_rules | `(tactic| ktn_no "in_h") => `(tactic| first | assumption | (repeat (with_reducible refine pushIn ?_)); assumption)
local macro_rules | `(tactic| ktn_no "sz_tac") => `(tactic| first | (first | lia | omega) | (simp; done) | (simp; (first | lia | omega)) | (simp [Array.size_eraseIdxIfInBounds]; split <;> simp <;> (first | lia | omega)))
local macro_rules | `(tactic| ktn_no "st_one") => `(tactic| first
  | ((with_reducible first
    | refine st_type (by heap_get; done) ?_
    | refine st_special (by heap_get; done) (by ktn_no "in_h") (by ktn_no "k_ev") ?_
    | refine st_inst (by heap_get; done) (by ktn_no "in_h") (by ktn_no "k_ev") ?_
    | refine st_typeK (by ktn_no "in_h") (by ktn_no "k_ev") ?_
    | refine st_specialK (by ktn_no "in_h") (by ktn_no "k_ev") ?_
    | refine st_instK (by ktn_no "in_h") (by ktn_no "k_ev") ?_
    | refine st_lookup (by ktn_no "in_h") (by ktn_no "k_ev") ?_
    | refine st_bindS (by ktn_no "in_h") (by ktn_no "k_ev") (by decide +kernel) ?_
    | refine st_sub (by ktn_no "in_h") (by ktn_no "k_ev") ?_); try dsimp only)
  | (with_reducible refine st_updateSeq (by heap_get; done) ?hz1 ?hz2 ?_; (case hz1 => ktn_no "sz_tac"); (case hz2 => ktn_no "sz_tac"))
  | wp_step)
local macro_rules | `(tactic| ktn_no "go") => `(tactic| repeat (ktn_no "no_call"; ktn_no "st_one"))

section
variable {prog : Program} {w : World} {A : Around} {E : Value → Shared → Prop} {s : Shared} {Q : Value → Shared → Prop}
theorem check_bi {M : Model} {i owner n : String} {self : Value} {rest : List Value} {kw : List (PySem.Str × Value)} {Q : Unit → Shared → Prop}
    (hk : builtinKind i = some .slot ∨ builtinKind i = some .method) (hs : splitId i = some (owner, n)) (hi : Looks M s.heap (isInstance self (.type owner)) true) (ha : argsOk i ⟨self :: rest, kw⟩) (q : Q () s) :
    wpAny M A (checkBuiltinCall i ⟨self :: rest, kw⟩) Q E s := by
  rcases hk with hk | hk <;>
  · simp only [checkBuiltinCall, hk, hs]
    refine wpAny_bind (hi.here ?_)
    simp only [Bool.not_true, Bool.false_eq_true, if_false]
    cases hsig : Manifest.signature? i with
    | none => exact wpAny_pure q
    | some sig =>
      simp only [argsOk, hsig] at ha
      have h2 : Bind.checkArgs i sig ⟨self :: rest, kw⟩ = pure () := ha
      show wpAny M A (Bind.checkArgs i sig ⟨self :: rest, kw⟩) Q E s
      rw [h2]; exact wpAny_pure q
theorem call_bi {i owner n : String} {b : Builtin} {self : Value} {rest : List Value}
    (hk : builtinKind i = some .slot ∨ builtinKind i = some .method) (hs : splitId i = some (owner, n)) (hq : plainId i = true) (hb : entryFor table i = some b) (ha : argsOk i ⟨self :: rest, []⟩)
    (hi : Looks (model prog w) s.heap (isInstance self (.type owner)) true)
    (hc : wpAny (model prog w) A.in1 (b ⟨self :: rest, []⟩) (fun fin s' => ∃ v, fin = .done (.ret v) ∧ Q v s') E s) :
    wpAny (model prog w) A (call (.builtin i) (self :: rest)) Q E s := by
  refine wpAny_call (codeAny_call_builtin hq hb (check_bi hk hs hi ha (wpAny_mono hc (fun fin s' h' => ?_) fun _ _ h' => h')))
  obtain ⟨v, rfl, hv⟩ := h'; exact hv
end


/-- an object of the class _Accumulator -/
noncomputable abbrev accO (dx : Addr) (vs : List Value) (n : Nat) : Obj := ⟨.ref a_Acc, some dx, .seq vs.toArray n, #[]⟩

theorem upd_hit {m : PySem.Str → Option Value} {x : PySem.Str} {v : Value} : upd m x v x = some v := by unfold upd; rw [if_pos rfl]
theorem upd_miss {m : PySem.Str → Option Value} {x y : PySem.Str} {v : Value} {c : Option Value} (h : decide (y = x) = false) (e : m y = c) : upd m x v y = c := by unfold upd; rw [if_neg (of_decide_eq_false h)]; exact e
local macro_rules | `(tactic| ktn_no "k_val") => `(tactic| first
  | (with_reducible assumption)
  | (with_reducible exact upd_hit)
  | ((with_reducible refine upd_miss ?_ ?_); kernel_rfl!; ktn_no "k_val")
  | k_dflt rfl)
section
open Builtin Builtin.ObjectAttr
section
variable {w : World} {A : Around} {E : Value → Shared → Prop} {x dx : Addr} {vs : List Value} {n : Nat} {h : Heap} {g : Array GenState} {d : Drawn} {tk : Nat} {os : OsState}

theorem acc_append {Q : Value → Shared → Prop} {v : Value} (X : (KF w.params).In h) (hx : h.get? x = some (accO dx vs n)) (hz : vs.length ≤ 1000)
    (q : ∀ h' n', Heap.SameBut x h h' → h'.get? x = some (accO dx (vs ++ [v]) n') → Q .none ⟨h', g, d, tk, os⟩) :
    wpAny (M w) A (call (.builtin "list.append") [.ref x, v]) Q E ⟨h, g, d, tk, os⟩ := by
  refine call_bi (i := "list.append") (owner := "list") (n := "append") (b := Builtin.«list.append») (by first | exact .inr (by decide +kernel) | exact .inl (by decide +kernel)) (by decide +kernel) (by decide +kernel) (entryFor_of_tree (by kernel_rfl)) (by unfold argsOk; kernel_rfl) (looks_inst hx X (by ktn_no "k_ev")) ?_
  unfold Builtin.«list.append» Builtin.List.listUpdate
  ktn_no "go"
  intro h1 n1 hs hx1
  ktn_no "go"
  exact ⟨_, rfl, q _ _ hs (by simpa using hx1)⟩
theorem acc_pop_b {Q : Value → Shared → Prop} {v : Value} (hx : h.get? x = some (accO dx (vs ++ [v]) n)) (hz : vs.length ≤ 1000)
    (q : ∀ h' n', Heap.SameBut x h h' → h'.get? x = some (accO dx vs n') → Q v ⟨h', g, d, tk, os⟩) :
    wpAny (M w) A (Builtin.«list.pop» ⟨[.ref x], []⟩) (fun fin s' => ∃ v, fin = .done (.ret v) ∧ Q v s') E ⟨h, g, d, tk, os⟩ := by
  unfold Builtin.«list.pop»
  ktn_no "go"
  have e : (seqIndex? (-1) (vs ++ [v]).toArray.size).bind (fun k => Option.map (fun x => (k, x)) (vs ++ [v]).toArray[k]?) = some (vs.length, v) := by
    have e1 : seqIndex? (-1) (vs ++ [v]).toArray.size = some vs.length := by
      unfold seqIndex?
      simp
      try (first | lia | omega)
    rw [e1]; simp
  rw [e]
  unfold Builtin.List.listUpdate
  dsimp only
  refine wpAny_bind (st_updateSeq hx ?_ ?_ ?_)
  · simp; (first | lia | omega)
  · simp [List.length_eraseIdx]; (first | lia | omega)
  intro h1 n1 hs hx1
  ktn_no "go"
  exact ⟨_, rfl, q _ _ hs (by simpa [List.eraseIdx_append_of_length_le] using hx1)⟩
theorem acc_iter {Q : Value → Shared → Prop} (X : (KF w.params).In h) (hx : h.get? x = some (accO dx vs n))
    (q : Q (.ref h.objs.size) ⟨h.push ⟨.type "list_iterator", none, .fields #[.ref x, rawInt 0], #[]⟩, g, d, tk, os⟩) :
    wpAny (M w) A (call (.builtin "list.__iter__") [.ref x]) Q E ⟨h, g, d, tk, os⟩ := by
  refine call_bi (i := "list.__iter__") (owner := "list") (n := "__iter__") (b := Builtin.«list.__iter__») (by first | exact .inr (by decide +kernel) | exact .inl (by decide +kernel)) (by decide +kernel) (by decide +kernel) (entryFor_of_tree (by kernel_rfl)) (by unfold argsOk; kernel_rfl) (looks_inst hx X (by ktn_no "k_ev")) ?_
  unfold Builtin.«list.__iter__»
  ktn_no "go"
  exact ⟨_, rfl, q⟩
variable {hs : Int} {t1 : Tok} {v : Value} {k : Nat} {es : List DictEntry} {c : Nat} {mm : PySem.Str → Option Value}
theorem acc_method {Q : Value × List Value → Shared → Prop} {pl : Sem Bool} {name : PySem.Str} {f tf : Value} (X : (KF w.params).In h) (hx : h.get? x = some (accO dx vs n)) (hd : h.get? dx = some (dictOf es k)) (hD : EsOk es mm c)
    (hf : findIn (KF w.params) (.ref a_Acc) name = some (some f)) (ht : typeIn (KF w.params) f = some tf) (ht2 : (tf != .type "function" && tf != .type "method_descriptor" && tf != .type "wrapper_descriptor") = false) (hl : mm name = none)
    (q : Q (f, [.ref x]) ⟨h, g, d, tk, os⟩) : wpAny (M w) A (getMethod (.ref x) name pl) Q E ⟨h, g, d, tk, os⟩ := by
  unfold getMethod
  refine wpAny_bind (st_special hx X (by ktn_no "k_ev") ?_)
  dsimp only
  rw [if_neg (by decide +kernel)]
  refine wpAny_bind (st_special hx X (by ktn_no "k_ev") ?_)
  rw [if_neg (by decide)]
  refine wpAny_bind (st_special hx X hf ?_)
  dsimp only
  refine wpAny_bind (st_typeK X ht ?_)
  rw [ht2]
  rw [if_neg (by decide)]
  refine wpAny_bind (wpAny_loadPart hx ?_)
  refine wpAny_bind (wpAny_bind (wpAny_loadPart hd ?_))
  rw [nsLook_of (hD.look name), hl]
  ktn_no "go"
  exact q
theorem acc_inst (hx : h.get? x = some (accO dx vs n)) {od : Obj} (hd : h.get? dx = some od) : InstAt h x (accO dx vs n) a_Acc (some od) := ⟨hx, rfl, rfl, hd⟩
theorem acc_get {Q : Value → Shared → Prop} {ex : Bool} (X : (KF w.params).In h) (hx : h.get? x = some (accO dx vs n)) (hd : h.get? dx = some (dictOf es k)) (hD : EsOk es mm c) (hm : mm "_initial_size" = some v) (hv : handedIn v = true)
    (q : Q v ⟨h, g, d, tk + 1, os⟩) : wpAny (M w) A (getAttr (.ref x) "_initial_size" ex) Q E ⟨h, g, d, tk, os⟩ := by
  unfold getAttr getAttrBy
  ktn_no "go"
  rw [show onTheHeap (Value.builtin "list.__getattribute__") = false from rfl, Bool.and_false, if_neg Bool.false_ne_true]
  unfold boundAndCalled
  refine wpAny_bind ?_
  ktn_no "st_one"
  refine call_bi (i := "list.__getattribute__") (owner := "list") (n := "__getattribute__") (b := Builtin.«object.__getattribute__») (by first | exact .inr (by decide +kernel) | exact .inl (by decide +kernel)) (by decide +kernel) (by decide +kernel) (entryFor_alias (id' := "object.__getattribute__") (by decide +kernel) (by decide +kernel) (by decide +kernel) (by rw [fastTable_eq_tree]; kernel_rfl)) (by unfold argsOk; kernel_rfl) (looks_inst hx X (by ktn_no "k_ev")) ?_
  unfold Builtin.«object.__getattribute__»
  have L : Looks (model pw w) h (find (.ref x) (.ref a_Acc) "_initial_size") (.value v) := looks_find X (acc_inst hx hd) (findObj_own (attr := none) (by ktn_no "k_ev") (by ktn_no "k_ev") (by ktn_no "k_ev") (by rw [hD.look, hm]))
  repeat (first | (with_reducible refine Looks.at L ?_; dsimp only) | ktn_no "st_one")
  refine ⟨_, rfl, ?_⟩
  rw [handedOut_of hv]
  exact wpAny_pure q
theorem acc_refuse (l : List Value) (h : l = [.ref a_Acc, .type "list", .type "object"]) : refuseLoop (.ref x) "__setattr__" l = pure () := by
  subst h
  rw [refuseLoop_ref]
  have e : refuseLoop (.ref x) "__setattr__" [.type "list", .type "object"] = refuseLoop (.ref x) "__setattr__" [.type "object"] := by
    unfold refuseLoop
    simp only [List.forIn_cons, classOwn]
    have : builtinOwn "list" "__setattr__" = none := by rw [builtinOwn_eq_fast]; decide +kernel
    simp [this]
  rw [e]; exact PySem.F.store_object.passes _
theorem acc_set {Q : Unit → Shared → Prop} (X : (KF w.params).In h) (hx : h.get? x = some (accO dx vs n)) (hne : x ≠ dx) (hd : h.get? dx = some (dictOf es k)) (hD : EsOk es mm c) (hc : c ≤ 100)
    (q : ∀ h' tk' k' es', Heap.SameBut dx h h' → h'.get? dx = some (dictOf es' k') → EsOk es' (upd mm "_initial_size" v) (if (mm "_initial_size").isSome then c else c + 1) → Q () ⟨h', g, d, tk', os⟩) : wpAny (M w) A (setAttr (.ref x) "_initial_size" v) Q E ⟨h, g, d, tk, os⟩ := by
  unfold setAttr
  ktn_no "go"
  refine call_bi (i := "object.__setattr__") (owner := "object") (n := "__setattr__") (b := Builtin.«object.__setattr__») (by first | exact .inr (by decide +kernel) | exact .inl (by decide +kernel)) (by decide +kernel) (by decide +kernel) (entryFor_of_tree (by kernel_rfl)) (by unfold argsOk; kernel_rfl) (looks_inst hx X (by ktn_no "k_ev")) ?_
  rw [show (Value.ref x :: [].append [Value.str "_initial_size" tk, v]) = [Value.ref x, Value.str "_initial_size" tk, v] from rfl, osa_eq, refuse_eq]
  refine wpAny_bind (wpAny_bind (st_type hx (wpAny_bind ?_)))
  refine Looks.at (r := [.ref a_Acc, .type "list", .type "object"]) ((looks_clsIn X (by ktn_no "k_ev")).andThen (Looks.of_pure (by kernel_rfl))) ?_
  rw [acc_refuse _ rfl]
  have LI : Looks (model pw w) h (instanceDict x true) (some dx) := looks_idict X hx rfl (by ktn_no "k_ev") rfl
  repeat (first | (with_reducible refine st_nsSet hd hD ?_) | (with_reducible refine Looks.at LI ?_; dsimp only) | (ktn_no "no_call"; ktn_no "st_one"))
  intro h' k' es' hs h1 hE
  refine wpAny_bind (wpAny_lookBehind h1 ?_ ?_)
  · show Data.pastItsLine (.dict es'.toArray k') = none
    have := hE.len
    split at this <;> exact if_neg (by show ¬ es'.length > 16777216 + 1; (first | lia | omega))
  ktn_no "go"
  exact ⟨_, rfl, wpAny_pure (wpAny_pure (q _ _ _ _ hs h1 hE))⟩
end

end

section
variable {w : World} {B : Heap} {L : Addr} {m : PySem.Str → Option Value} {cl : List (PySem.Str × Addr)} {cm : PySem.Str → Option Value} {news : List (Addr × Obj)} {s₀ : Shared} {A : Around} {E : Value → Shared → Prop}
  {h : Heap} {g g₀ : Array GenState} {d d₀ : Drawn} {tk tk₀ : Nat} {os os₀ : OsState} {env : Env} {x : PySem.Str} {v : Value} {c : Addr} {pos : Pos}
theorem nm_L {Q : Value → Shared → Prop} (F : Fm w B L cl s₀ m cm news ⟨h, g₀, d₀, tk₀, os₀⟩) (hk : env.scope.kind = .function) (hx : env.kindOf x = some .local) (hL : env.locals = L) (hb : (x == ("__debug__" : PySem.Str)) = false) (hv : m x = some v) (q : Q v ⟨h, g, d, tk, os⟩) :
    wpAny (M w) A (eval (.Name x pos) env) Q E ⟨h, g, d, tk, os⟩ := wpAny_Name (wpAny_loadName_local hk hx (by subst hL; exact F.ns) hv q) hb
theorem nm_F {Q : Value → Shared → Prop} (F : Fm w B L cl s₀ m cm news ⟨h, g₀, d₀, tk₀, os₀⟩) (hk : env.scope.kind = .function) (hx : env.kindOf x = some .free) (hL : env.cells = cl) (hb : (x == ("__debug__" : PySem.Str)) = false) (hn : (x == ("__classdict__" : PySem.Str)) = false) (hc : cl.lookup x = some c) (hv : cm x = some v) (q : Q v ⟨h, g, d, tk, os⟩) :
    wpAny (M w) A (eval (.Name x pos) env) Q E ⟨h, g, d, tk, os⟩ := wpAny_Name (wpAny_loadName_free hk hx (by rw [hL]; exact hc) (hv ▸ F.ce x c hc) q hn) hb
theorem nm_C {Q : Value → Shared → Prop} (F : Fm w B L cl s₀ m cm news ⟨h, g₀, d₀, tk₀, os₀⟩) (hk : env.scope.kind = .function) (hx : env.kindOf x = some .cell) (hL : env.cells = cl) (hb : (x == ("__debug__" : PySem.Str)) = false) (hc : cl.lookup x = some c) (hv : cm x = some v) (q : Q v ⟨h, g, d, tk, os⟩) :
    wpAny (M w) A (eval (.Name x pos) env) Q E ⟨h, g, d, tk, os⟩ := wpAny_Name (wpAny_loadName_cell hk hx (by rw [hL]; exact hc) (hv ▸ F.ce x c hc) q) hb
theorem nm_G {Q : Value → Shared → Prop} (F : Fm w B L cl s₀ m cm news ⟨h, g₀, d₀, tk₀, os₀⟩) (hk : env.scope.kind = .function) (hx : env.kindOf x = some .globalImplicit) (hL : env.globals = mainGlobals) (hb : (x == ("__debug__" : PySem.Str)) = false) (e : nsIn (KF w.params) mainGlobals x = some (some v)) (q : Q v ⟨h, g, d, tk, os⟩) :
    wpAny (M w) A (eval (.Name x pos) env) Q E ⟨h, g, d, tk, os⟩ := by
  obtain ⟨mg, hg⟩ := F.wf.g
  exact Name_function_global hk hx (loadGlobal_global (by rw [hL]; exact hg.keeps F.keep) (mg_of F.wf.k hg e) q) hb
theorem nm_B {Q : Value → Shared → Prop} (F : Fm w B L cl s₀ m cm news ⟨h, g₀, d₀, tk₀, os₀⟩) (hk : env.scope.kind = .function) (hx : env.kindOf x = some .globalImplicit) (hL : env.globals = mainGlobals) (hL2 : env.builtins = builtinsNs) (hb : (x == ("__debug__" : PySem.Str)) = false)
    (e : nsIn (KF w.params) mainGlobals x = some none) (hv : bootBuiltins x = some v) (hn : x ≠ "__name__") (q : Q v ⟨h, g, d, tk, os⟩) :
    wpAny (M w) A (eval (.Name x pos) env) Q E ⟨h, g, d, tk, os⟩ := by
  obtain ⟨mg, hg⟩ := F.wf.g
  (refine x1_2 (F.wf.b) ?_; intro mb hmb hbb)
  exact Name_function_global hk hx (loadGlobal_builtin (by rw [hL]; exact hg.keeps F.keep) (mg_none_of F.wf.k hg e) (by rw [hL2]; exact hmb.keeps F.keep) ((hbb x hn).trans hv) q) hb
theorem st_L {Q : Unit → Shared → Prop} (F : Fm w B L cl s₀ m cm news ⟨h, g, d₀, tk₀, os⟩) (hk : env.scope.kind = .function) (hx : env.kindOf x = some .local) (hL : env.locals = L)
    (q : ∀ h', Fm w B L cl s₀ (upd m x v) cm news ⟨h', g, d, tk + 1, os⟩ → Q () ⟨h', g, d, tk + 1, os⟩) : wpAny (M w) A (storeName env x v) Q E ⟨h, g, d, tk, os⟩ := by
  subst hL
  exact wpAny_storeName_local hx F.ns (fun h' hn hs => q h' (Fm.store (s := ⟨h, g, d, tk, os⟩) (F.withD (d := d) (tk := tk)) hn hs)) (by rw [hk]; rfl)
theorem st_C {Q : Unit → Shared → Prop} (F : Fm w B L cl s₀ m cm news ⟨h, g, d₀, tk₀, os⟩) (hk : env.scope.kind = .function) (hx : env.kindOf x = some .cell) (hL : env.cells = cl) (hc : cl.lookup x = some c) (hB : B.get? c = none) (hz : szTop ≤ c)
    (q : ∀ h', Fm w B L cl s₀ m (upd cm x v) news ⟨h', g, d, tk, os⟩ → Q () ⟨h', g, d, tk, os⟩) : wpAny (M w) A (storeName env x v) Q E ⟨h, g, d, tk, os⟩ :=
  wpAny_storeName_cell hk hx (by rw [hL]; exact hc) (F.ce x c hc) (fun h' hv hs => q h' (Fm.storeC (s := ⟨h, g, d, tk, os⟩) (F.withD (d := d) (tk := tk)) hc hB hv hs hz (tk := tk)))
end

local macro_rules | `(tactic| ktn_no "nm1") => `(tactic| first
  | (with_reducible refine nm_L (by assumption) (by kernel_rfl) (by kernel_rfl!) (by kernel_rfl) (by kernel_rfl) (by ktn_no "k_val") ?_)
  | (with_reducible refine nm_F (by assumption) (by kernel_rfl) (by kernel_rfl!) (by kernel_rfl) (by kernel_rfl) (by kernel_rfl) (by ktn_no "k_val") (by ktn_no "k_val") ?_)
  | (with_reducible refine nm_C (by assumption) (by kernel_rfl) (by kernel_rfl!) (by kernel_rfl) (by kernel_rfl) (by ktn_no "k_val") (by ktn_no "k_val") ?_)
  | (with_reducible refine nm_G (by assumption) (by kernel_rfl) (by kernel_rfl!) (by kernel_rfl) (by kernel_rfl) (by ktn_no "k_ev") ?_)
  | (with_reducible refine nm_B (by assumption) (by kernel_rfl) (by kernel_rfl!) (by kernel_rfl) (by kernel_rfl) (by kernel_rfl) (by ktn_no "k_ev") (by boot_fast) (by decide) ?_))

section
variable {prog : Program} {w : World} {A : Around} {E : Value → Shared → Prop} {s : Shared} {env : Env} {pos : Pos} {e : Expr} {rest : List Expr}
theorem sp_cons {Q : List Value → Shared → Prop} (h : wpAny (model prog w) A (eval e env) (fun v s₁ => wpAny (model prog w) A (spliced (backTo pos (starEach rest env))) (fun vs s₂ => Q (v :: vs) s₂) E s₁) E s)
    (he : starEach (e :: rest) env = (false, eval e env) :: starEach rest env) : wpAny (model prog w) A (spliced (backTo pos (starEach (e :: rest) env))) Q E s := by
  rw [he]; exact spliced_cons h
theorem mc_ {o : Expr} {name : PySem.Str} {apos : Pos} {args : List Expr} {Q : Value → Shared → Prop}
    (h : wpAny (model prog w) A (eval o env) (fun ov s₁ => wpAny (model prog w) A (getMethod ov name (do return (← importBound o env).getD true)) (fun fx s₂ => wpAny (model prog w) A (callWith pos fx.1 fx.2 (backTo pos (starEach args env)) []) Q E s₂) E s₁) E s)
    (hbase : attributeBase o name env (eval o env) = eval o env) (hfew : methodCallForm (args.length + ([] : List Keyword).length) (backTo pos (starEach args env)) (backToKw pos (keywordEach [] env)) = true) (hline : (apos.endLine == pos.line) = true) :
    wpAny (model prog w) A (eval (.Call (.Attribute o name apos) args [] pos) env) Q E s := by
  rw [arm_eval_Call, hbase]
  refine wpAny_bind (wpAny_mono h (fun ov s₁ h₁ => ?_) fun _ _ e => e)
  refine wpAny_bind (wpAny_standAt ?_)
  have hpos : methodCallPos true o env apos pos = pure pos := by unfold methodCallPos; simp [hline]
  unfold methodCall
  rw [hfew]
  refine wpAny_bind (wpAny_holding (wpAny_mono h₁ (fun fx s₂ h₂ => ?_) fun _ _ e => e))
  exact wpAny_bind (wpAny_of_eq hpos h₂)
theorem sp_nil {Q : List Value → Shared → Prop} (h : Q [] s) : wpAny (model prog w) A (spliced (backTo pos (starEach [] env))) Q E s := spliced_nil h
theorem cw_b0 {id : String} {first : List Value} {Q : Value → Shared → Prop} (h : wpAny (model prog w) A (call (.builtin id) first) Q E s) :
    wpAny (model prog w) A (callWith pos (.builtin id) first (backTo pos (starEach [] env)) []) Q E s := callWith_method0 h
theorem cw_b {id : String} {first : List Value} {Q : Value → Shared → Prop} (h : wpAny (model prog w) A (spliced (backTo pos (starEach (e :: rest) env))) (fun vs s₁ => wpAny (model prog w) A (call (.builtin id) (first ++ vs)) Q E s₁) E s)
    (he : starEach (e :: rest) env = (false, eval e env) :: starEach rest env) (hp : (backTo pos (starEach rest env)).any (·.1) = false) :
    wpAny (model prog w) A (callWith pos (.builtin id) first (backTo pos (starEach (e :: rest) env)) []) Q E s := callWith_method1 h he hp
theorem cw_f0 {f : Value} {first : List Value} {Q : Value → Shared → Prop} (X : (KF w.params).In s.heap) (hk : keepIn (KF w.params) f = true) (h : wpAny (model prog w) A (call f first) Q E s) :
    wpAny (model prog w) A (callWith pos f first (backTo pos (starEach [] env)) []) Q E s := callWith_K0 X hk (by rw [List.append_nil]; exact h)
end
local macro_rules | `(tactic| ktn_no "w1") => `(tactic| first
  | (with_reducible first
    | refine wpAny_execs_nil ?_ | refine wpAny_execs_cons ?_ | refine wpAny_Return_some ?_ | refine wpAny_Return_none ?_ | refine wpAny_If ?_
    | refine isTrue_not ?_ | refine isTrue_and ?_ | refine isTrue_or ?_ | refine isTrue_and_nil ?_ | refine isTrue_or_nil ?_
    | refine wpAny_truthy_bool ?_ | refine eq_int ?_ | refine gt_int ?_ | refine lt_int ?_ | refine sub_int ?_ | refine add_int ?_ | refine is_none ?_ | refine neg_int ?_ | refine not_of ?_
    | refine wpAny_AugAssign_Name ?_ | refine wpAny_AugAssign_AttributeAny ?_ | refine wpAny_Break ?_ | refine wpAny_Continue ?_
    | refine wpAny_Constant_int ?_ | refine Constant_str ?_ | refine Constant_none ?_ | refine Constant_bool ?_
    | refine Tuple_ ?_ | refine List_ ?_ | refine wpAny_BinOp ?_ | refine UnaryOp_ ?_ | refine BoolOp_one ?_ | refine BoolOp_and ?_ | refine BoolOp_or ?_ | refine sp_nil ?_ | refine cw_b0 ?_)
  | ((with_reducible first
    | refine wpAny_isTrue_Compare1 ?_ ?a1 | refine wpAny_Assign_Name ?_ ?a1 | refine plainObj_wpAny_Assign_Attribute ?_ ?a1 | refine wpAny_Compare1 ?_ ?a1 | refine sp_cons ?_ ?a1); (case a1 => kernel_rfl))
  | ((with_reducible refine isTrue_plain ?_ ?a1); (case a1 => kernel_rfl!))
  | ktn_no "nm1"
  | ((with_reducible refine mc_ ?_ ?a1 ?a2 ?a3); (case a1 => kernel_rfl!); (case a2 => kernel_rfl); (case a3 => kernel_rfl))
  | ((with_reducible refine Attribute_any_ ?_ ?a1); (case a1 => kernel_rfl))
  | ((with_reducible first | refine wpAny_Expr_any ?_ ?a1 ?a2 | refine cw_b ?_ ?a1 ?a2); (case a1 => kernel_rfl); (case a2 => kernel_rfl))
  | ((ktn_no "no_call"); dsimp only))
local macro_rules | `(tactic| ktn_no "w") => `(tactic| repeat ktn_no "w1")

theorem perm_of {α : Type} {a b : List α} (h : ∀ [BEq α] [LawfulBEq α] (x : α), a.count x = b.count x) : a.Perm b := by
  letI : BEq α := ⟨fun a b => @decide (a = b) (Classical.propDecidable _)⟩
  haveI : LawfulBEq α := { eq_of_beq := fun h => @of_decide_eq_true _ (Classical.propDecidable _) h, rfl := fun {a} => @decide_eq_true (a = a) (Classical.propDecidable _) rfl }
  exact List.perm_iff_count.mpr fun x => h x
theorem pq_e {α : Type} {a : α} {l z t : List α} (h : l.Perm (a :: z)) (k : z.Perm t) : l.Perm (a :: t) := h.trans (k.cons a)
theorem pq_l {α : Type} {a l z t : List α} (h : l.Perm (a ++ z)) (k : z.Perm t) : l.Perm (a ++ t) := h.trans (k.append_left a)
theorem pq_ee {α : Type} {a b : α} {t z : List α} (h : t.Perm (a :: z)) : (b :: t).Perm (a :: b :: z) := (h.cons b).trans (.swap _ _ _)
theorem pq_le {α : Type} {a : α} {b t z : List α} (h : t.Perm (a :: z)) : (b ++ t).Perm (a :: (b ++ z)) := (h.append_left b).trans List.perm_middle
theorem pq_el {α : Type} {b : α} {a t z : List α} (h : t.Perm (a ++ z)) : (b :: t).Perm (a ++ (b :: z)) := (h.cons b).trans List.perm_middle.symm
theorem pq_ll {α : Type} {a b t z : List α} (h : t.Perm (a ++ z)) : (b ++ t).Perm (a ++ (b ++ z)) := (h.append_left b).trans (by rw [← List.append_assoc, ← List.append_assoc]; exact List.perm_append_comm.append_right _)
theorem pq_ra {α : Type} {a b t x : List α} (h : x.Perm (a ++ (b ++ t))) : x.Perm ((a ++ b) ++ t) := by rw [List.append_assoc]; exact h
theorem pq_la {α : Type} {a b t x : List α} (h : (a ++ (b ++ t)).Perm x) : ((a ++ b) ++ t).Perm x := by rw [List.append_assoc]; exact h
theorem pq_rc {α : Type} {a : α} {b t x : List α} (h : x.Perm (a :: (b ++ t))) : x.Perm ((a :: b) ++ t) := h
theorem pq_lc {α : Type} {a : α} {b t x : List α} (h : (a :: (b ++ t)).Perm x) : ((a :: b) ++ t).Perm x := h
theorem pq_rn {α : Type} {t x : List α} (h : x.Perm t) : x.Perm ([] ++ t) := h
theorem pq_ln {α : Type} {t x : List α} (h : t.Perm x) : ([] ++ t).Perm x := h
local macro_rules | `(tactic| ktn_no "pull") => `(tactic| with_reducible first
  | exact List.Perm.refl _
  | (apply pq_lc; ktn_no "pull") | (apply pq_ln; ktn_no "pull") | (apply pq_la; ktn_no "pull")
  | (apply pq_ee; ktn_no "pull") | (apply pq_el; ktn_no "pull") | (apply pq_le; ktn_no "pull") | (apply pq_ll; ktn_no "pull"))
local macro_rules | `(tactic| ktn_no "perm") => `(tactic| with_reducible first
  | exact List.Perm.refl _
  | (apply pq_rc; ktn_no "perm") | (apply pq_rn; ktn_no "perm") | (apply pq_ra; ktn_no "perm") | (apply pq_ln; ktn_no "perm") | (apply pq_la; ktn_no "perm")
  | (apply List.Perm.cons; ktn_no "perm") | (apply List.Perm.append_left; ktn_no "perm")
  | (apply pq_e; (case h => ktn_no "pull"); ktn_no "perm") | (apply pq_l; (case h => ktn_no "pull"); ktn_no "perm"))
local macro_rules | `(tactic| ktn_no "perm_tac") => `(tactic| first | ktn_no "perm" | ((dsimp only [List.cons_append, List.nil_append]); ktn_no "perm") | exact List.Perm.refl _ | (refine perm_of fun aPerm => ?_; simp only [List.count_cons, List.count_append, List.count_nil, List.cons_append, List.nil_append, List.append_assoc]; (first | lia | omega)))

section
variable {w : World} {B : Heap} {L : Addr} {m : PySem.Str → Option Value} {cl : List (PySem.Str × Addr)} {cm : PySem.Str → Option Value} {news news' : List (Addr × Obj)} {s₀ s : Shared}
theorem Fm.perm (F : Fm w B L cl s₀ m cm news s) (hp : news.Perm news') : Fm w B L cl s₀ m cm news' s :=
  { F with nw := fun p h => F.nw p (hp.mem_iff.mpr h), nd := (hp.map _).nodup_iff.mp F.nd, cd := fun n c e => let ⟨a, b, d⟩ := F.cd n c e; ⟨a, fun q => b ((hp.map (·.1)).mem_iff.mpr q), d⟩ }
end

noncomputable abbrev tupO (vs : List Value) : Obj := ⟨.type "tuple", none, .seq vs.toArray 0, #[]⟩
/-- pairs of strs and the tuples that hold them -/
inductive Tups : List (PySem.Str × PySem.Str) → List Value → List (Addr × Obj) → Prop
  | nil : Tups [] [] []
  | cons {f p : PySem.Str} {r vs l q t1 t2} : Tups r vs l → Tups ((f, p) :: r) (.ref q :: vs) ((q, tupO [.str f t1, .str p t2]) :: l)
theorem Tups.append : ∀ {a b va vb la lb}, Tups a va la → Tups b vb lb → Tups (a ++ b) (va ++ vb) (la ++ lb)
  | _, _, _, _, _, _, .nil, y => y
  | _, _, _, _, _, _, .cons x, y => .cons (x.append y)
theorem Tups.len : ∀ {a va la}, Tups a va la → va.length = a.length
  | _, _, _, .nil => rfl
  | _, _, _, .cons x => by simp [x.len]
theorem Tups.split : ∀ {a b v l}, Tups (a ++ b) v l → ∃ va vb la lb, v = va ++ vb ∧ l = la ++ lb ∧ Tups a va la ∧ Tups b vb lb
  | [], b, v, l, h => ⟨[], v, [], l, rfl, rfl, .nil, h⟩
  | (f, p) :: r, b, _, _, .cons x => let ⟨va, vb, la, lb, e1, e2, h1, h2⟩ := x.split; by subst e1 e2; exact ⟨_, vb, _, lb, rfl, rfl, .cons h1, h2⟩
noncomputable abbrev accM (init : Int) (t : Tok) : PySem.Str → Option Value := upd (fun _ => none) "_initial_size" (.int init t)
/-- an _Accumulator at x: its pairs and its first size; own: what it is made of -/
inductive AccP (x : Addr) (its : List (PySem.Str × PySem.Str)) (init : Int) (own : List (Addr × Obj)) : Prop
  | mk (dx : Addr) (n k : Nat) (vs : List Value) (l : List (Addr × Obj)) (es : List DictEntry) (t : Tok) (e : own = (x, accO dx vs n) :: (dx, dictOf es k) :: l) (hE : EsOk es (accM init t) 1) (hT : Tups its vs l) : AccP x its init own

local macro_rules | `(tactic| ktn_no "k_f") => `(tactic| (first | exact (by assumption)))
section
variable {w : World} {B : Heap} {L : Addr} {m : PySem.Str → Option Value} {cl : List (PySem.Str × Addr)} {cm : PySem.Str → Option Value} {own rest news : List (Addr × Obj)} {s₀ s : Shared} {A : Around} {E : Value → Shared → Prop} {Q : Value → Shared → Prop} {n : Nat} {x : Addr} {its : List (PySem.Str × PySem.Str)} {init : Int}
theorem push_spec {a b : PySem.Str} {ta tb : Tok} (R : Room (n + 5) A) (F : Fm w B L cl s₀ m cm (own ++ rest) s) (P : AccP x its init own) (hz : its.length ≤ 900)
    (h : ∀ own' s', AccP x (its ++ [(a, b)]) init own' → Fm w B L cl s₀ m cm (own' ++ rest) s' → Q .none s') :
   wpAny (M w) A (call (.ref a_Acc_push) [.ref x, .str a ta, .str b tb] []) Q E s := by
  refine call_fn (binds := [("self", .ref x), ("fws", .str a ta), ("string", .str b tb)]) (fd := fd_Acc_push) (cmF := fun _ => none) R F (lk_Acc_push _) (cd_Acc_push _) rfl (BindsTo.of_eq rfl) (by decide) (by kernel_rfl) (fun _ _ e => (by cases e)) (fun _ _ _ e => (by cases e)) ?_ rfl rfl rfl
  obtain ⟨dx, n, k, vs, l, es, t, rfl, hE, hT⟩ := P
  intro Qo hQo L' s₁ hL F₁ R₁
  obtain ⟨h₁, g₁, d₁, k₁, o₁⟩ := s₁
  have X := F₁.K
  have hx := F₁.at 0 rfl
  have hd := F₁.at 1 rfl
  ktn_no "ast"
  ktn_no "w"
  refine acc_method X hx hd hE (by ktn_no "k_ev") (by ktn_no "k_ev") (by decide +kernel) (by ktn_no "k_ev") ?_
  ktn_no "w"
  refine st_newTuple (by simp) ?_
  ktn_no "w"
  have F₂ := Fm.push F₁ (tupO [.str a ta, .str b tb]) (tk := k₁)
  have hx' := F₂.at 1 rfl
  refine acc_append F₂.K hx' (by rw [hT.len]; (first | lia | omega)) fun h' n' hs hx'' => ?_
  have F₃ := F₂.set (i := 1) rfl hs hx'' (tk := k₁)
  ktn_no "w"
  refine hQo _ _ <| Back.of (F₃.perm (news' := ((x, accO dx (vs ++ [.ref h₁.objs.size]) n') :: (dx, dictOf es k) :: (l ++ [(h₁.objs.size, tupO [.str a ta, .str b tb])])) ++ rest) ?_) fun G => h _ _ ⟨_, _, _, _, _, _, _, rfl, hE, hT.append (.cons .nil)⟩ G
  simp only [List.cons_append, List.set]
  ktn_no "perm_tac"
end
section
variable {w : World} {A : Around} {E : Value → Shared → Prop} {x so dx : Addr} {vs : List Value} {n : Nat} {h : Heap} {g : Array GenState} {d : Drawn} {tk : Nat} {os : OsState}
theorem st_own {K : Frag} {M : Model} {name : PySem.Str} {c : Value} {r : Option Value} {Q : Option Value → Shared → Prop} (X : K.In h) (e : ownIn K name c = some r) (q : Q r ⟨h, g, d, tk, os⟩) : wpAny M A (classOwn c name) Q E ⟨h, g, d, tk, os⟩ := (looks_ownIn X e).at q
theorem st_cd {K : Frag} {M : Model} {c : Addr} {r : ClassData} {Q : ClassData → Shared → Prop} (X : K.In h) (e : clsIn K c = some r) (q : Q r ⟨h, g, d, tk, os⟩) : wpAny M A (classData c) Q E ⟨h, g, d, tk, os⟩ := (looks_clsIn X e).at q
theorem st_mro {K : Frag} {M : Model} {c : Addr} {r : List Value} {Q : List Value → Shared → Prop} (X : K.In h) (e : (clsIn K c).map (·.mro) = some r) (q : Q r ⟨h, g, d, tk, os⟩) : wpAny M A (mroOf (.ref c)) Q E ⟨h, g, d, tk, os⟩ := by
  (refine x1_2 (Option.map_eq_some_iff.mp e) ?_; intro cd a b)
  subst b
  exact Looks.at ((looks_clsIn X a).andThen .now) q

theorem sup_ga {name : PySem.Str} {tn : Tok} {id : String} {Q : Fin → Shared → Prop} (X : (KF w.params).In h) (hxC : x ≠ a_Acc) (hso : h.get? so = some (ks_superObj a_Acc x a_Acc)) (hn : (name == ("__class__" : PySem.Str)) = false)
    (hc : (clsIn (KF w.params) a_Acc).map (·.mro) = some [.ref a_Acc, .type "list", .type "object"]) (ho : ownIn (KF w.params) name (.type "list") = some (some (.builtin id))) {tf g1 : Value} (ht : typeIn (KF w.params) (.builtin id) = some tf) (hg : findIn (KF w.params) tf "__get__" = some (some g1))
    (hno : nsIn (KF w.params) cStatics "thirdparty.any" = some none)
    (q : wpAny (M w) A (call g1 [.builtin id, .ref x, .ref a_Acc]) (fun v => Q (.done (.ret v))) E ⟨h, g, d, tk, os⟩) :
    wpAny (M w) A (Builtin.«super.__getattribute__» ⟨[.ref so, .str name tn], []⟩) Q E ⟨h, g, d, tk, os⟩ := by
  have hne : (Value.ref x == Value.ref a_Acc) = false := by simp [hxC]
  have hdt : (ks_superObj a_Acc x a_Acc).data = .fields #[.ref a_Acc, .ref x, .ref a_Acc] := rfl
  have f0 : (#[.ref a_Acc, .ref x, .ref a_Acc] : Array Value)[0]? = some (.ref a_Acc) := rfl
  have f1 : (#[.ref a_Acc, .ref x, .ref a_Acc] : Array Value)[1]? = some (.ref x) := rfl
  have f2 : (#[.ref a_Acc, .ref x, .ref a_Acc] : Array Value)[2]? = some (.ref a_Acc) := rfl
  have ed : (([.ref a_Acc, .type "list", .type "object"] : List Value).dropWhile (· != .ref a_Acc)).drop 1 = [.type "list", .type "object"] := by decide
  unfold Builtin.«super.__getattribute__»
  repeat (first
    | (with_reducible refine wpAny_field hso hdt f0 ?_) | (with_reducible refine wpAny_field hso hdt f1 ?_) | (with_reducible refine wpAny_field hso hdt f2 ?_)
    | (with_reducible refine ks_wpAny_notOpaque (looks_opaque X hno) ?_)
    | (with_reducible refine st_mro X hc ?_; rw [ed])
    | (with_reducible refine st_own X ho ?_)
    | (with_reducible refine st_typeK X ht ?_)
    | (with_reducible refine st_lookup X hg ?_)
    | (simp only [hn, hne, List.forIn_cons, Bool.or_false, Bool.false_eq_true, if_false])
    | (ktn_no "no_call"; wp_step)
    | (ktn_no "no_call"; dsimp only))
  refine wpAny_mono q (fun v s' hv => ?_) (fun _ _ z => z)
  repeat (first | wp_step | dsimp only)
  exact hv
noncomputable abbrev bndO (bt id : String) (x : Addr) : Obj := ⟨.type bt, none, .fields #[.builtin id, .ref x], #[]⟩
theorem wrap_get {id : String} {Q : Value → Shared → Prop} (X : (KF w.params).In h) (hx : h.get? x = some (accO dx vs n)) (ht : typeIn (KF w.params) (.builtin id) = some (.type "wrapper_descriptor"))
    (hi : subIn (KF w.params) (.ref a_Acc) (.type (".".intercalate (id.cutAt '.').dropLast)) = some true) (q : Q (.ref h.objs.size) ⟨h.push (bndO "method-wrapper" id x), g, d, tk, os⟩) :
    wpAny (M w) A (call (.builtin "wrapper_descriptor.__get__") [.builtin id, .ref x, .ref a_Acc]) Q E ⟨h, g, d, tk, os⟩ := by
  refine call_bi (i := "wrapper_descriptor.__get__") (owner := "wrapper_descriptor") (n := "__get__") (b := Builtin.«wrapper_descriptor.__get__») (by first | exact .inr (by decide +kernel) | exact .inl (by decide +kernel)) (by decide +kernel) (by decide +kernel) (entryFor_of_tree (by kernel_rfl)) (by unfold argsOk; kernel_rfl) ((looks_typeIn X ht).andThen (looks_subIn X (by ktn_no "k_ev"))) ?_
  unfold Builtin.«wrapper_descriptor.__get__»
  repeat (first | (with_reducible refine st_inst hx X hi ?_) | (ktn_no "no_call"; ktn_no "st_one"))
  exact ⟨_, rfl, q⟩
theorem meth_get {id : String} {Q : Value → Shared → Prop} (X : (KF w.params).In h) (hx : h.get? x = some (accO dx vs n)) (ht : typeIn (KF w.params) (.builtin id) = some (.type "method_descriptor")) (htc : Manifest.toldItsClass.contains id = false)
    (hi : subIn (KF w.params) (.ref a_Acc) (.type (".".intercalate (id.cutAt '.').dropLast)) = some true) (q : Q (.ref h.objs.size) ⟨h.push (bndO "builtin_function_or_method" id x), g, d, tk, os⟩) :
    wpAny (M w) A (call (.builtin "method_descriptor.__get__") [.builtin id, .ref x, .ref a_Acc]) Q E ⟨h, g, d, tk, os⟩ := by
  refine call_bi (i := "method_descriptor.__get__") (owner := "method_descriptor") (n := "__get__") (b := Builtin.«method_descriptor.__get__») (by first | exact .inr (by decide +kernel) | exact .inl (by decide +kernel)) (by decide +kernel) (by decide +kernel) (entryFor_of_tree (by kernel_rfl)) (by unfold argsOk; kernel_rfl) ((looks_typeIn X ht).andThen (looks_subIn X (by ktn_no "k_ev"))) ?_
  unfold Builtin.«method_descriptor.__get__»
  repeat (first | (with_reducible refine st_inst hx X hi ?_) | (rw [htc]) | (ktn_no "no_call"; ktn_no "st_one"))
  exact ⟨_, rfl, q⟩
theorem sup_method {name : PySem.Str} {id : String} {pl : Sem Bool} {Q : Value × List Value → Shared → Prop} {b : Value} (X : (KF w.params).In h) (hxC : x ≠ a_Acc) (hso : h.get? so = some (ks_superObj a_Acc x a_Acc)) (hn : (name == ("__class__" : PySem.Str)) = false)
    (hc : (clsIn (KF w.params) a_Acc).map (·.mro) = some [.ref a_Acc, .type "list", .type "object"]) (ho : ownIn (KF w.params) name (.type "list") = some (some (.builtin id))) {tf g1 : Value} (ht : typeIn (KF w.params) (.builtin id) = some tf) (hg : findIn (KF w.params) tf "__get__" = some (some g1))
    (hno : nsIn (KF w.params) cStatics "thirdparty.any" = some none)
    (q : wpAny (M w) A.in1 (call g1 [.builtin id, .ref x, .ref a_Acc]) (fun v s' => v = .ref h.objs.size ∧ Q (v, []) s') (fun _ _ => False) ⟨h, g, d, tk + 1, os⟩) :
    wpAny (M w) A (getMethod (.ref so) name pl) Q E ⟨h, g, d, tk, os⟩ := by
  have hlk := PySem.F.ks_slot_super_ga.lookup
  have hcan := PySem.F.ks_canon_super_ga
  have hT : ∀ t', (⟨h, g, d, t', os⟩ : Shared).TypeIs (.ref so) "super" := fun _ => ⟨_, hso, rfl⟩
  unfold getMethod
  refine wpAny_bind (wpAny_specialOf (hT _) hlk ?_)
  show wpAny _ _ (if (Manifest.canonical "super.__getattribute__" != "object.__getattribute__") = true then _ else _) _ _ _
  rw [if_pos hcan]
  unfold getAttr getAttrBy
  refine wpAny_bind (wpAny_bind (wpAny_mkText (wpAny_holding (wpAny_bind (wpAny_typeOf (hT _) (wpAny_bind (wpAny_of_eq hlk ?_)))))))
  show wpAny _ _ (getAttrByItsOwn (.ref so) (.str name tk) (.type "super") (.builtin "super.__getattribute__") true false) _ _ _
  unfold getAttrByItsOwn hookBefore callGetattribute boundAndCalled
  refine wpAny_bind (wpAny_of_eq (show (if onTheHeap (.type "super") then typeLookup (.type "super") "__getattr__" else pure none) = pure none from rfl) ?_)
  refine wpAny_bind (wpAny_attempt (wpAny_holding ?_))
  show wpAny _ _ (bindSpecial (.builtin "super.__getattribute__") (.ref so) >>= _) _ _ _
  refine wpAny_bind (wpAny_of_eq (PySem.F.ks_slot_super_ga.bind _) ?_)
  refine wpAny_mono (Q := fun v s' => v = .ref h.objs.size ∧ Q (v, []) s') (E := fun _ _ => False)
    (wpAny_call_entry PySem.F.ks_slot_super_ga (hT _) PySem.F.ks_entry_super_ga (show wpAny (model pw w) A.in1 (Builtin.«super.__getattribute__» ⟨[.ref so, .str name tk], []⟩) _ _ ⟨h, g, d, tk + 1, os⟩ from sup_ga X hxC hso hn hc ho ht hg hno (wpAny_mono q (fun v s' hv => (show ∃ v', Fin.done (Flow.ret v) = Fin.done (Flow.ret v') ∧ v' = .ref h.objs.size ∧ Q (v', []) s' from ⟨v, rfl, hv⟩)) fun _ _ z => z)) (PySem.F.ks_gaArgs_super _ _)) (fun v s' hv => ?_) fun _ _ z => z.elim
  obtain ⟨rfl, hv⟩ := hv
  exact wpAny_pure (wpAny_pure hv)
end
section
variable {w : World} {B : Heap} {L : Addr} {m : PySem.Str → Option Value} {cl : List (PySem.Str × Addr)} {cm : PySem.Str → Option Value} {news : List (Addr × Obj)} {s₀ s : Shared}
theorem Fm.new (F : Fm w B L cl s₀ m cm news s) {h' : Heap} {o : Obj} (k : ∀ b ob, s.heap.get? b = some ob → h'.get? b = some ob) (hn : h'.get? s.heap.objs.size = some o) {tk : Nat} : Fm w B L cl s₀ m cm ((s.heap.objs.size, o) :: news) { s with heap := h', toks := tk } := by
  have G := F.grow (h' := h') (tk := tk) k (Nat.le_of_lt (Heap.lt_size hn))
  have lt : ∀ {a ob}, s.heap.get? a = some ob → a ≠ s.heap.objs.size := fun e q => absurd (Heap.lt_size e) (by rw [q]; exact Nat.lt_irrefl _)
  (refine x3_2 (F.ns) ?_; intro oL es ep hL _)
  refine { G with nw := fun p hp => ?_, nd := ?_, cd := fun n c hm => ?_ }
  · rcases List.mem_cons.mp hp with rfl | hp
    · refine ⟨hn, fun e => lt hL e.symm, ?_, Nat.le_trans F.szL (Nat.le_of_lt (Heap.lt_size hL))⟩
      cases q : B.get? s.heap.objs.size with
      | none => rfl
      | some o' => exact absurd rfl (lt (F.keep _ _ q))
    · exact G.nw p hp
  · refine List.nodup_cons.mpr ⟨fun q => ?_, F.nd⟩
    (refine x1_2 (List.mem_map.mp q) ?_; intro p hp e)
    exact lt (F.nw p hp).1 e
  · (refine x0_3 (F.cd n c hm) ?_; intro a b c')
    refine ⟨a, fun q => ?_, c'⟩
    rcases List.mem_cons.mp q with e | q
    · (refine x1_2 (F.ce n c hm) ?_; intro oc hoc _)
      exact lt hoc e
    · exact b q
theorem K_lt {P : Params} {a : Addr} {o : Obj} (e : (KF P).lookup a = some o) : a < szTop := by
  have : ∀ l : List (Addr × Obj), l.all (fun p => decide (p.1 < szTop)) = true → l.lookup a = some o → a < szTop := fun l hl e => by
    induction l with
    | nil => cases e
    | cons p r ih =>
      obtain ⟨b, x⟩ := p
      simp only [List.all_cons, Bool.and_eq_true, decide_eq_true_eq] at hl
      simp only [List.lookup] at e
      split at e
      · rename_i q; rw [beq_iff_eq.mp q]; exact hl.1
      · exact ih hl.2 e
  exact this _ (by kernel_rfl) e
theorem Fm.nK (F : Fm w B L cl s₀ m cm news s) {p : Addr × Obj} (hp : p ∈ news) {a : Addr} (ha : a < szTop) : p.1 ≠ a := fun e => absurd ha (by rw [← e]; exact Nat.not_lt.mpr (F.nw p hp).2.2.2)
end

noncomputable def fileIn (K : Frag) (cd : Value) (file : PySem.Str) : Bool := match cd with
  | .ref c => (match K.lookup c with
    | some ⟨_, _, .fields vs, _⟩ => (match (vs[2]? : Option Value) with
      | some (Value.str f _) => file == f
      | _ => false)
    | _ => false)
  | _ => false

section
variable {w : World} {B : Heap} {L : Addr} {m : PySem.Str → Option Value} {cl : List (PySem.Str × Addr)} {cm : PySem.Str → Option Value} {news : List (Addr × Obj)} {s₀ s : Shared} {A : Around} {E : Value → Shared → Prop} {Q : Value → Shared → Prop}
theorem call_fn_at {n : Nat} {f : Addr} {oc : Value} {od : Option Addr} {osl : Array (Option Value)} {fd : FuncData} {body : List Stmt} {pos : List Value} {kw : List (PySem.Str × Value)} {binds : List (PySem.Str × Value)} {cmF : PySem.Str → Option Value}
    (R : Room (n + 1) A) (F : Fm w B L cl s₀ m cm news s)
    (ho : (KF w.params).lookup f = some ⟨oc, od, .func fd, osl⟩) (hcd : codeIn (KF w.params) fd.code fd.qualname = true) (hbody : fd.body = .stmts body) (hbind : BindsTo s fd ⟨pos, kw⟩ binds)
    (hcell : (fd.scope.names.all fun x => decide (x.2 ≠ .cell)) = true) (hloc : (binds.all fun x => decide (fd.scope.names.lookup x.1 = some .local)) = true)
    (hcl : ∀ n c, fd.closure.lookup n = some c → c < szTop ∧ ¬ Tab c ∧ ∃ o, (KF w.params).lookup c = some o ∧ o.data = .cell (cmF n)) (hcp : ∀ n n' c, fd.closure.lookup n = some c → fd.closure.lookup n' = some c → n = n')
    (h : ∀ Qo : Flow → Shared → Prop, (∀ fl s', Back w B L m cl cm news s₀ s Q (retV fl) s' → Qo fl s') → ∀ L' s₁, L' = s.heap.objs.size → Fm w (under s news) L' fd.closure s (bnd binds) cmF news s₁ → Room n (A.deeper (callEnv fd L' f)) →
      _root_.PySem.wpAt (M w) (A.deeper (callEnv fd L' f)) (.func body (callEnv fd L' f)) (execs body (callEnv fd L' f)) Qo (fun _ _ => False) s₁)
    (hco : fd.scope.isCoroutine = false) (hgen : fd.scope.isGenerator = false) (hk : fd.scope.kind = .function) : wpAny (M w) A (call (.ref f) pos kw) Q E s := by
  have X := F.K
  refine wpAny_call (ks_codeAny_call_defAt (fd := fd) (body := body) (binds := binds) R.lt (X _ _ ho) rfl (F.wf.nl.keeps F.keep) (codeRec_of X hcd) hbody hbind
    (fun x hx => of_decide_eq_true (List.all_eq_true.mp hcell x hx)) (locs hloc) (fun h₁ hns hk₁ => ?_) hco hgen hk)
  have hz : s.heap.objs.size < h₁.objs.size := hns.lt
  refine ks_wpAt_mono (h _ (fun _ _ x => x) s.heap.objs.size _ rfl (F.enter rfl hns hk₁ (Nat.le_of_lt hz) (fun n c e => ?_) (fun n c e => ?_) hcp) R.deeper) (fun fl s' hb => ?_) (fun _ _ x => x.elim)
  · obtain ⟨_, _, o, ho, hd⟩ := hcl n c e
    exact ⟨o, hk₁ _ _ (X _ _ ho), hd⟩
  · obtain ⟨hs, hT, o, ho, hd⟩ := hcl n c e
    refine ⟨Nat.ne_of_lt (Heap.lt_size (X _ _ ho)), fun q => ?_, hT⟩
    (refine x1_2 (List.mem_map.mp q) ?_; intro p hp e')
    exact absurd hs (by rw [← e']; exact Nat.not_lt.mpr (F.nw p hp).2.2.2)
  · cases fl <;> exact hb.go F
end
section
variable {w : World} {B : Heap} {L : Addr} {m : PySem.Str → Option Value} {cm : PySem.Str → Option Value} {news : List (Addr × Obj)} {s₀ : Shared} {A : Around} {E : Value → Shared → Prop} {Q : Value → Shared → Prop}
  {h : Heap} {g : Array GenState} {d : Drawn} {tk : Nat} {os : OsState} {x dx f cc : Addr} {vs : List Value} {n : Nat}
theorem sup_base {fd : FuncData} {oc : Value} {od : Option Addr} {osl : Array (Option Value)} {ar : Arg} {body : List Stmt} {p0 p1 : Pos} {attr : PySem.Str} {whole : Sem Value} {cdD : ClassData}
    {tk₀ : Nat} (F : Fm w B L fd.closure s₀ m cm news ⟨h, g, d, tk₀, os⟩) (hf : (KF w.params).lookup f = some ⟨oc, od, .func fd, osl⟩) (hfile : fileIn (KF w.params) fd.code (pw.main.file : PySem.Str) = true) (hp : (fd.params.posonlyargs ++ fd.params.args).head? = some ar)
    (hv : m ar.arg = some (.ref x)) (hc : fd.closure.lookup ("__class__" : PySem.Str) = some cc) (hcm : cm ("__class__" : PySem.Str) = some (.ref a_Acc)) (hx : h.get? x = some (accO dx vs n)) (hD : clsIn (KF w.params) a_Acc = some cdD) (hsub : mroIn (KF w.params) a_Acc (.ref a_Acc) = some true) (hsuper : nsIn (KF w.params) mainGlobals "super" = some none)
    (hat : (attr == ("__class__" : PySem.Str)) = false) (hks : (callEnv fd L f).kindOf ("super" : PySem.Str) = some .globalImplicit) (hkc : (callEnv fd L f).kindOf ("__class__" : PySem.Str) = some .free) (hka : (callEnv fd L f).kindOf ar.arg = some .local) (hk : fd.scope.kind = .function) (hg : fd.globals = mainGlobals) (hb : fd.builtins = builtinsNs)
    (htop : (pw.main.scope.names.lookup ("super" : PySem.Str)).isSome = false) (hboot : bootBuiltins "super" = some (.type "super"))
    (q : ∀ h', Fm w B L fd.closure s₀ m cm ((h.objs.size, ks_superObj a_Acc x a_Acc) :: news) ⟨h', g, d, tk, os⟩ → Q (.ref h.objs.size) ⟨h', g, d, tk, os⟩) :
    _root_.PySem.wpAt (M w) A (.func body (callEnv fd L f)) (attributeBase (.Call (.Name "super" p0) [] [] p1) attr (callEnv fd L f) whole) Q E ⟨h, g, d, tk, os⟩ := by
  have X := F.K
  obtain ⟨oD, hD1, hD2⟩ : ∃ oD, h.get? a_Acc = some oD ∧ oD.data = .cls cdD := by
    unfold clsIn at hD
    split at hD
    · rename_i c d cd' sl ho
      cases hD
      exact ⟨_, X _ _ ho, rfl⟩
    · cases hD
  unfold fileIn at hfile
  split at hfile
  case h_2 => cases hfile
  rename_i cda hcda
  split at hfile
  case h_2 => cases hfile
  rename_i c1 c2 vs1 c3 hoc
  split at hfile
  case h_2 => cases hfile
  rename_i fl tf hvs
  obtain ⟨mg, hmg⟩ := F.wf.g
  (refine x1_2 (F.wf.b) ?_; intro mb hmb hbb)
  refine ks_wpAt_super_base (env := callEnv fd L f) (fd := fd) hks hkc hat rfl (X _ _ hf) rfl hp hcda (X _ _ hoc) rfl hvs hfile htop ?_
  refine ks_loadName_global (env := callEnv fd L f) hk hks (loadGlobal_builtin (env := callEnv fd L f) (mg := mg) (mb := mb) (by show h.Ns fd.globals mg; rw [hg]; exact hmg.keeps F.keep) (mg_none_of F.wf.k hmg hsuper) (by show h.Ns fd.builtins mb; rw [hb]; exact hmb.keeps F.keep) ((hbb _ (by decide +kernel)).trans hboot) ⟨rfl, ?_⟩)
  refine wpAny_loadName_free (env := callEnv fd L f) hk hkc hc (hcm ▸ F.ce _ _ hc) ?_
  refine wpAny_loadName_local (env := callEnv fd L f) hk hka F.ns hv ?_
  refine ks_wpAny_isType_cls hD1 hD2 ⟨rfl, ?_⟩
  refine ks_wpAny_call_super hD1 hD2 hx rfl (fun c e => (by cases e)) (looks_mroIn X hsub) (fun h' e k => ?_)
  exact q h' (Fm.new (F.withD (d := d) (tk := tk)) (h' := h') k e (tk := tk))
theorem call_bnd {bo : Addr} {bt id : String} {Bi : Builtin} {args : List Value} (hb : h.get? bo = some (bndO bt id x)) (hbt : bt = "method-wrapper" ∨ bt = "builtin_function_or_method") (hq : plainId id = true) (hen : entryFor table id = some Bi)
    (hck : ∀ (A : Around) (Q : Unit → Shared → Prop) (E : Value → Shared → Prop), Q () ⟨h, g, d, tk, os⟩ → wpAny (M w) A (checkBoundCall id ⟨.ref x :: args, []⟩) Q E ⟨h, g, d, tk, os⟩)
    (hc : wpAny (M w) A.in1 (Bi ⟨.ref x :: args, []⟩) (fun fin s' => ∃ v, fin = .done (.ret v) ∧ Q v s') E ⟨h, g, d, tk, os⟩) : wpAny (M w) A (call (.ref bo) args) Q E ⟨h, g, d, tk, os⟩ := by
  refine wpAny_call (codeAny_of_tree ?_)
  show wpAny _ A.in1 (callAny (.ref bo) ⟨args, []⟩) _ _ _
  unfold callAny
  refine wpAny_bind (wpAny_load hb ?_)
  dsimp only
  have e1 : (Value.type bt == Value.type "method" || Value.type bt == Value.type "builtin_function_or_method" || Value.type bt == Value.type "method-wrapper") = true := by rcases hbt with rfl | rfl <;> decide
  have e2 : (Value.type bt != Value.type "method") = true := by rcases hbt with rfl | rfl <;> decide
  rw [e1, if_pos rfl]
  show wpAny _ A.in1 (if (Value.type bt != Value.type "method") = true then _ else _) _ _ _
  rw [e2, if_pos rfl]
  refine wpAny_bind (hck _ _ _ (wpAny_pure ⟨plainId_quiet hq _, codeAny_builtin hen ?_⟩))
  rw [Around.under_plainId hq _]
  refine wpAny_mono hc (fun fin s' hv => ?_) fun _ _ z => z
  (refine x1_2 (hv) ?_; try clear hv; intro v eqX1 hv; subst eqX1)
  exact hv
end
section
variable {prog : Program} {w : World} {A : Around} {c : Code} {E : Value → Shared → Prop} {s : Shared} {env : Env} {pos : Pos} {e : Expr} {rest : List Expr}
theorem mc_at {o : Expr} {name : PySem.Str} {apos : Pos} {args : List Expr} {Q : Value → Shared → Prop}
    (h : _root_.PySem.wpAt (model prog w) A c (attributeBase o name env (eval o env)) (fun ov s₁ => wpAny (model prog w) A (getMethod ov name (do return (← importBound o env).getD true)) (fun fx s₂ => wpAny (model prog w) A (callWith pos fx.1 fx.2 (backTo pos (starEach args env)) []) Q E s₂) E s₁) E s)
    (hfew : methodCallForm (args.length + ([] : List Keyword).length) (backTo pos (starEach args env)) (backToKw pos (keywordEach [] env)) = true) (hline : (apos.endLine == pos.line) = true) :
    _root_.PySem.wpAt (model prog w) A c (eval (.Call (.Attribute o name apos) args [] pos) env) Q E s := by
  rw [arm_eval_Call]
  refine _root_.PySem.wpAt_bind (_root_.PySem.wpAt_mono h (fun ov s₁ h₁ => ?_) fun _ _ e => e)
  refine _root_.PySem.wpAt_of_wpAny (wpAny_bind (wpAny_standAt ?_))
  have hpos : methodCallPos true o env apos pos = pure pos := by unfold methodCallPos; simp [hline]
  unfold methodCall
  rw [hfew]
  refine wpAny_bind (wpAny_holding (wpAny_mono h₁ (fun fx s₂ h₂ => ?_) fun _ _ e => e))
  exact wpAny_bind (wpAny_of_eq hpos h₂)
theorem cw_bnd0 {bo x : Addr} {bt id : String} {Q : Value → Shared → Prop} (hb : s.heap.get? bo = some (bndO bt id x)) (hbt : bt = "method-wrapper" ∨ bt = "builtin_function_or_method") (h : wpAny (model prog w) A (call (.ref bo) []) Q E s) :
    wpAny (model prog w) A (callWith pos (.ref bo) [] (backTo pos (starEach [] env)) []) Q E s := by
  refine callWith_of (P := fun h => h.get? bo = some (bndO bt id x)) rfl (fun h e => ⟨.machine, .inr (.inl rfl), ?_⟩) (evalArgs_nil3 ⟨hb, by simpa using h⟩)
  unfold keeperOf
  refine (Looks.ld (part := none) e).andThen ?_
  rcases hbt with rfl | rfl <;> exact .now
end
theorem clo1 {P : Params} {cl : List (PySem.Str × Addr)} {cc : Addr} {cmF : PySem.Str → Option Value} {o : Obj} (e : cl = [(("__class__" : PySem.Str), cc)]) (hK : (KF P).lookup cc = some o) (hd : o.data = .cell (cmF "__class__")) (hT : (cc == T1 || cc == T2) = false) :
    (∀ n c, cl.lookup n = some c → c < szTop ∧ ¬ Tab c ∧ ∃ o, (KF P).lookup c = some o ∧ o.data = .cell (cmF n)) ∧ (∀ n n' c, cl.lookup n = some c → cl.lookup n' = some c → n = n') := by
  subst e
  have hn : ∀ n c, ([(("__class__" : PySem.Str), cc)] : List (PySem.Str × Addr)).lookup n = some c → n = "__class__" ∧ c = cc := fun n c e => by
    simp only [List.lookup] at e
    split at e
    · rename_i q; cases e; exact ⟨beq_iff_eq.mp q, rfl⟩
    · cases e
  refine ⟨fun n c e => ?_, fun n n' c e e' => ((hn n c e).1).trans ((hn n' c e').1).symm⟩
  obtain ⟨rfl, rfl⟩ := hn n c e
  refine ⟨K_lt hK, fun t => ?_, o, hK, hd⟩
  simp only [Bool.or_eq_false_iff, beq_eq_false_iff_ne] at hT
  rcases t with rfl | rfl
  · exact hT.1 rfl
  · exact hT.2 rfl
noncomputable abbrev a_cc : Addr := (fd_Acc_part_count.closure.headD default).2
noncomputable abbrev cmC : PySem.Str → Option Value := fun n => if n = "__class__" then some (.ref a_Acc) else none
section
variable {w : World} {B : Heap} {L : Addr} {m : PySem.Str → Option Value} {cl : List (PySem.Str × Addr)} {cm : PySem.Str → Option Value} {own rest news : List (Addr × Obj)} {s₀ s : Shared} {A : Around} {E : Value → Shared → Prop} {Q : Value → Shared → Prop} {n : Nat} {x : Addr} {its : List (PySem.Str × PySem.Str)} {init : Int}
theorem cc_K (P : Params) : (KF P).lookup a_cc = some ⟨.type "cell", none, .cell (some (.ref a_Acc)), #[]⟩ := by kernel_rfl
theorem part_count_spec (R : Room (n + 5) A) (F : Fm w B L cl s₀ m cm (own ++ rest) s) (P : AccP x its init own)
    (h : ∀ t s', Fm w B L cl s₀ m cm (own ++ rest) s' → Q (.int its.length t) s') :
   wpAny (M w) A (call (.ref a_Acc_part_count) [.ref x] []) Q E s := by
  have CL := clo1 (P := w.params) (cl := fd_Acc_part_count.closure) (cc := a_cc) (cmF := cmC) (by kernel_rfl) (cc_K _) rfl (by decide)
  refine call_fn_at (binds := [("self", .ref x)]) (fd := fd_Acc_part_count) (cmF := cmC) R F (lk_Acc_part_count _) (cd_Acc_part_count _) rfl (BindsTo.of_eq rfl) (by decide) (by kernel_rfl) CL.1 CL.2 ?_ rfl rfl rfl
  obtain ⟨dx, n, k, vs, l, es, t, rfl, hE, hT⟩ := P
  intro Qo hQo L' s₁ hL F₁ R₁
  obtain ⟨h₁, g₁, d₁, k₁, o₁⟩ := s₁
  have X := F₁.K
  have hx := F₁.at 0 rfl
  have hd := F₁.at 1 rfl
  ktn_no "ast_at"
  refine ks_wpAt_execs_cons (ks_wpAt_Return_some (mc_at ?_ (by kernel_rfl) (by kernel_rfl)))
  refine sup_base (cc := a_cc) F₁ (lk_Acc_part_count _) (by kernel_rfl) (by ktn_no "k_val") (by ktn_no "k_val") (by kernel_rfl) (by kernel_rfl) hx (by ktn_no "k_ev") (by ktn_no "k_ev") (by ktn_no "k_ev") (by decide) (by kernel_rfl) (by kernel_rfl) (by kernel_rfl) rfl rfl rfl (by decide +kernel) (by first | boot_by_name | kernel_rfl) fun h₂ F₂ => ?_
  dsimp only
  have hx₂ := F₂.at 1 rfl
  have hso₂ := F₂.at 0 rfl
  refine sup_method (b := .none) F₂.K (F₂.nK (p := (x, _)) (.tail _ (.head _)) (by decide)) hso₂ (by decide) (by ktn_no "k_ev") (by ktn_no "k_ev") (by ktn_no "k_ev") (by ktn_no "k_ev") (by ktn_no "k_ev") ?_
  refine wrap_get F₂.K hx₂ (by ktn_no "k_ev") (by ktn_no "k_ev") ⟨rfl, ?_⟩
  have F₃ := Fm.push F₂ (bndO "method-wrapper" "list.__len__" x) (tk := k₁)
  have hb₃ := F₃.at 0 rfl
  have hx₃ := F₃.at 2 rfl
  dsimp only
  refine cw_bnd0 hb₃ (.inl rfl) ?_
  refine call_bnd (Bi := Builtin.«list.__len__») hb₃ (.inl rfl) (by decide +kernel) (entryFor_of_tree (by kernel_rfl)) (fun A Q E q => ?_) ?_
  · exact wpAny_of_eq (show checkBoundCall "list.__len__" ⟨[.ref x], []⟩ = pure () by kernel_rfl) q
  unfold Builtin.«list.__len__»
  ktn_no "go"
  refine ⟨_, rfl, ?_⟩
  refine hQo _ _ <| Back.of ((F₃.drop 2).toks (k₁ + 2)) fun G => ?_
  have := h (k₁ + 1) _ G
  simpa [retV, hT.len] using this
end
theorem getLastD_app {α : Type} {l : List α} {a d : α} : (l ++ [a]).getLastD d = a := by
  rw [List.getLastD_eq_getLast?]; simp
theorem chk_pop {w : World} {A : Around} {E : Value → Shared → Prop} {x dx : Addr} {vs : List Value} {n : Nat} {h : Heap} {g : Array GenState} {d : Drawn} {tk : Nat} {os : OsState} {Q : Unit → Shared → Prop} (X : (KF w.params).In h) (hx : h.get? x = some (accO dx vs n)) (q : Q () ⟨h, g, d, tk, os⟩) :
    wpAny (M w) A (checkBoundCall "list.pop" ⟨[.ref x], []⟩) Q E ⟨h, g, d, tk, os⟩ := by
  obtain ⟨S, hS, hc⟩ : ∃ S, Manifest.signature? "list.pop" = some S ∧ Bind.checkArgs "list.pop" { S with full := "_Accumulator.pop" } ⟨[.ref x], []⟩ = pure () := ⟨_, by ktn_no "k_ev", by kernel_rfl⟩
  have hk : builtinKind "list.pop" = some .method := by decide +kernel
  have hv : Manifest.varargsMethods.contains "list.pop" = false := by decide +kernel
  unfold checkBoundCall
  rw [hS]
  dsimp only
  rw [hk]
  dsimp only
  rw [if_neg (by decide)]
  refine wpAny_bind (st_inst hx X (by ktn_no "k_ev") ?_)
  rw [hv, if_neg (by decide)]
  refine wpAny_bind (ks_wpAny_isType_inst hx (fun c e => by cases e) ?_)
  rw [if_neg (by decide)]
  refine wpAny_bind (st_type hx ?_)
  dsimp only
  obtain ⟨cd, hcd, hqn⟩ : ∃ cd, clsIn (KF w.params) a_Acc = some cd ∧ (toString cd.qualname.toString ++ toString "." ++ toString (Bind.lastOf "list.pop")) = "_Accumulator.pop" := ⟨_, by ktn_no "k_ev", by kernel_rfl⟩
  refine wpAny_bind (st_cd X hcd ?_)
  rw [hqn]
  refine wpAny_bind (st_typeK X (by ktn_no "k_ev") ?_)
  rw [if_pos (by decide)]
  exact wpAny_of_eq hc q
theorem Tups.one {f p : PySem.Str} {v : List Value} {l : List (Addr × Obj)} (h : Tups [(f, p)] v l) : ∃ q t1 t2, v = [.ref q] ∧ l = [(q, tupO [.str f t1, .str p t2])] := by
  cases h with
  | cons h => cases h; exact ⟨_, _, _, rfl, rfl⟩
section
variable {w : World} {B : Heap} {L : Addr} {m : PySem.Str → Option Value} {cl : List (PySem.Str × Addr)} {cm : PySem.Str → Option Value} {own rest news : List (Addr × Obj)} {s₀ s : Shared} {A : Around} {E : Value → Shared → Prop} {Q : Value → Shared → Prop} {n : Nat} {x : Addr} {its : List (PySem.Str × PySem.Str)} {init : Int}
theorem pop_spec (R : Room (n + 12) A) (F : Fm w B L cl s₀ m cm (own ++ rest) s) (P : AccP x its init own) (hz : its.length ≤ 900)
    (h : ∀ own' q t1 t2 s', AccP x its.dropLast init own' → Fm w B L cl s₀ m cm ((q, tupO [.str (its.getLastD ("", "")).1 t1, .str (its.getLastD ("", "")).2 t2]) :: own' ++ rest) s' → Q (.ref q) s') :
   wpAny (M w) A (call (.ref a_Acc_pop) [.ref x] []) Q E s := by
  have CL := clo1 (P := w.params) (cl := fd_Acc_pop.closure) (cc := a_cc) (cmF := cmC) (by kernel_rfl) (cc_K _) rfl (by decide)
  refine call_fn_at (binds := [("self", .ref x)]) (fd := fd_Acc_pop) (cmF := cmC) R F (lk_Acc_pop _) (cd_Acc_pop _) rfl (BindsTo.of_eq rfl) (by decide) (by kernel_rfl) CL.1 CL.2 ?_ rfl rfl rfl
  intro Qo hQo L' s₁ hL F₁ R₁
  obtain ⟨h₁, g₁, d₁, k₁, o₁⟩ := s₁
  have X := F₁.K
  have P₀ := P
  obtain ⟨dx, nn, k, vs, l, es, t, rfl, hE, hT⟩ := P
  have hx := F₁.at 0 rfl
  have hd := F₁.at 1 rfl
  ktn_no "ast_at"
  refine ks_wpAt_execs_cons (_root_.PySem.wpAt_of_wpAny ?_)
  ktn_no "w"
  refine acc_method X hx hd hE (by ktn_no "k_ev") (by ktn_no "k_ev") (by decide +kernel) (by ktn_no "k_ev") ?_
  dsimp only
  refine cw_f0 X (by kernel_rfl) ?_
  refine part_count_spec (n := n + 6) (R₁.less (by ktn_no "le")) F₁ P₀ fun t' s' F₂ => ?_
  obtain ⟨h₂, g₂, d₂, k₂, o₂⟩ := s'
  ktn_no "w"
  have hx₂ := F₂.at 0 rfl
  have hd₂ := F₂.at 1 rfl
  rcases List.eq_nil_or_concat its with rfl | ⟨its0, ⟨f, p⟩, rfl⟩
  · cases hT
    rw [if_pos (by decide)]
    ktn_no "w"
    refine st_newTuple (by simp) ?_
    refine hQo _ _ <| Back.of (Fm.push F₂ _ (tk := _)) fun G => ?_
    exact h [(x, accO dx [] nn), (dx, dictOf es k)] h₂.objs.size _ _ _ ⟨_, _, _, _, _, _, _, rfl, hE, .nil⟩ G
  · rw [List.concat_eq_append] at *
    rw [if_neg (by simp; (first | lia | omega))]
    ktn_no "w"
    (refine x4_4 (hT.split) ?_; intro va vb la lb eqX4 eqX5 h1 h2; subst eqX4; subst eqX5)
    (refine x3_2 (h2.one) ?_; intro q t1 t2 eqX3 eqX4; subst eqX3; subst eqX4)
    have hla := h1.len
    simp only [List.length_append, List.length_singleton] at hz
    dsimp only
    ktn_no "ast_at"
    refine ks_wpAt_execs_cons (ks_wpAt_Return_some (mc_at ?_ (by kernel_rfl) (by kernel_rfl)))
    refine sup_base (cc := a_cc) F₂ (lk_Acc_pop _) (by kernel_rfl) (by ktn_no "k_val") (by ktn_no "k_val") (by kernel_rfl) (by kernel_rfl) hx₂ (by ktn_no "k_ev") (by ktn_no "k_ev") (by ktn_no "k_ev") (by decide) (by kernel_rfl) (by kernel_rfl) (by kernel_rfl) rfl rfl rfl (by decide +kernel) (by first | boot_by_name | kernel_rfl) fun h₃ F₃ => ?_
    dsimp only
    have hx₃ := F₃.at 1 rfl
    have hso₃ := F₃.at 0 rfl
    refine sup_method (b := .none) F₃.K (F₃.nK (p := (x, _)) (.tail _ (.head _)) (by decide)) hso₃ (by decide) (by ktn_no "k_ev") (by ktn_no "k_ev") (by ktn_no "k_ev") (by ktn_no "k_ev") (by ktn_no "k_ev") ?_
    refine meth_get F₃.K hx₃ (by ktn_no "k_ev") (by decide +kernel) (by ktn_no "k_ev") ⟨rfl, ?_⟩
    have F₄ := Fm.push F₃ (bndO "builtin_function_or_method" "list.pop" x) (tk := k₂ + 1)
    have hb₄ := F₄.at 0 rfl
    have hx₄ := F₄.at 2 rfl
    dsimp only
    refine cw_bnd0 hb₄ (.inr rfl) ?_
    refine call_bnd (Bi := Builtin.«list.pop») hb₄ (.inr rfl) (by decide +kernel) (entryFor_of_tree (by kernel_rfl)) (fun A Q E q => ?_) ?_
    · exact chk_pop F₄.K hx₄ q
    refine acc_pop_b hx₄ (by ktn_no "om") fun h' n' hs hx' => ?_
    have F₅ := ((F₄.set (i := 2) rfl hs hx' (tk := k₂ + 1)).drop 2)
    refine hQo _ _ <| Back.of (Fm.toks (F₅.perm (news' := (q, tupO [.str f t1, .str p t2]) :: ((x, accO dx va n') :: (dx, dictOf es k) :: la) ++ rest) ?_) _) fun G => ?_
    · simp only [List.cons_append, List.set, List.drop]
      ktn_no "perm_tac"
    · refine h ((x, accO dx va n') :: (dx, dictOf es k) :: la) q t1 t2 _ ⟨_, _, _, _, _, _, _, rfl, hE, ?_⟩ ?_
      · simpa using h1
      · rw [getLastD_app]; simpa using G
end
noncomputable abbrev itO (x : Addr) (i : Nat) : Obj := ⟨.type "list_iterator", none, .fields #[.ref x, .int i 0], #[]⟩
section
variable {w : World} {A : Around} {E : Value → Shared → Prop} {x dx I : Addr} {vs : List Value} {n : Nat} {h : Heap} {g : Array GenState} {d : Drawn} {tk : Nat} {os : OsState}
theorem it_next {o : Obj} {Q : Option Value → Shared → Prop} {i : Nat} {v : Value} (hI : h.get? I = some (itO x i)) (hx : h.get? x = some o) (hd : o.data = .seq vs.toArray n) (hv : vs[i]? = some v)
    (q : ∀ h', Heap.SameBut I h h' → h'.get? I = some (itO x (i + 1)) → Q (some v) ⟨h', g, d, tk, os⟩) : wpAny (M w) A (pyNext (.ref I)) Q E ⟨h, g, d, tk, os⟩ := by
  have hT : Shared.TypeIs ⟨h, g, d, tk, os⟩ (.ref I) "list_iterator" := ⟨_, hI, rfl⟩
  have hv' : vs.toArray[i]? = some v := by simpa using hv
  unfold pyNext
  refine wpAny_bind (wpAny_attempt (wpAny_callSpecial?_slot (name := Str.ofString "__next__") hT slot_listiter_next (wpAny_call_entry slot_listiter_next hT entry_listiter_next ?_ (args_listiter_next _))))
  show wpAny _ _ (field (.ref I) 0 >>= _) _ _ _
  refine wpAny_bind (wpAny_field hI rfl (x := .ref x) rfl ?_)
  show wpAny _ _ (if (Value.ref x == Value.none) = true then _ else _) _ _ _
  rw [if_neg (show ¬ ((Value.ref x == Value.none) = true) from Bool.false_ne_true)]
  show wpAny _ _ (field (.ref I) 1 >>= _) _ _ _
  refine wpAny_bind (wpAny_field hI rfl (x := .int i 0) rfl ?_)
  show wpAny _ _ (seqItems? (.ref x) >>= _) _ _ _
  refine wpAny_bind (wpAny_seqItems hx hd ?_)
  simp only [Int.toNat_natCast, hv']
  exact wpAny_bind (wpAny_setField_rec hI (by simp) fun h' e s => wpAny_pure ⟨v, rfl, wpAny_pure (q h' s (by rw [e]; simp [rawInt]))⟩)
theorem it_end {o : Obj} {Q : Option Value → Shared → Prop} {i : Nat} (hh : A.handled = none) (hI : h.get? I = some (itO x i)) (hx : h.get? x = some o) (hd : o.data = .seq vs.toArray n) (hv : vs.length ≤ i)
    (q : ∀ h', (∀ b ob, b ≠ I → h.get? b = some ob → h'.get? b = some ob) → Q none ⟨h', g, d, tk, os⟩) : wpAny (M w) A (pyNext (.ref I)) Q E ⟨h, g, d, tk, os⟩ := by
  have hT : Shared.TypeIs ⟨h, g, d, tk, os⟩ (.ref I) "list_iterator" := ⟨_, hI, rfl⟩
  have hv' : vs.toArray[i]? = none := by simpa using hv
  unfold pyNext
  refine wpAny_bind (wpAny_attempt (wpAny_callSpecial?_slot (name := Str.ofString "__next__") hT slot_listiter_next (wpAny_call_entry slot_listiter_next hT entry_listiter_next ?_ (args_listiter_next _))))
  show wpAny _ _ (field (.ref I) 0 >>= _) _ _ _
  refine wpAny_bind (wpAny_field hI rfl (x := .ref x) rfl ?_)
  show wpAny _ _ (if (Value.ref x == Value.none) = true then _ else _) _ _ _
  rw [if_neg (show ¬ ((Value.ref x == Value.none) = true) from Bool.false_ne_true)]
  show wpAny _ _ (field (.ref I) 1 >>= _) _ _ _
  refine wpAny_bind (wpAny_field hI rfl (x := .int i 0) rfl ?_)
  show wpAny _ _ (seqItems? (.ref x) >>= _) _ _ _
  refine wpAny_bind (wpAny_seqItems hx hd ?_)
  simp only [Int.toNat_natCast, hv']
  refine wpAny_bind (wpAny_rule (wpAny_bind (wpAny_setField_rec hI (by simp) fun h' e s => ?_)))
  show wpAny _ _ (newExc (.type "StopIteration") [] >>= _) _ _ _
  refine wpAny_bind ?_
  simp only [newExc, newTuple]
  refine wpAny_bind (wpAny_newObj_type ?_ (by size_fits))
  refine wpAny_bind (m := firstArgMember _ _) (wpAny_of_eq (a := Value.none) (by first | rfl | (simp only [firstArgMember]; rfl)) ?_)
  refine wpAny_newObj_type ?_ (by size_fits)
  simp only [raiseNew]
  refine wpAny_bind (wpAny_handled ?_)
  rw [show A.in1.handled = none from hh]
  refine wpAny_bind (wpAny_pure (wpAny_throw ?_))
  refine wpAny_bind (wpAny_isInstance (T := "StopIteration") (b := true) ⟨_, Heap.get?_push_size _ rfl, rfl⟩ isSubtype_stop ?_)
  exact wpAny_pure (q _ fun b ob hb e => Heap.get?_push_of_some _ (Heap.get?_push_of_some _ ((s.2 b hb).trans e)))
end
theorem Tups.get {its : List (PySem.Str × PySem.Str)} {vs : List Value} {l : List (Addr × Obj)} (h : Tups its vs l) : ∀ {i : Nat} {f p : PySem.Str}, its[i]? = some (f, p) → ∃ (q : Addr) (t1 t2 : Tok), vs[i]? = some (Value.ref q) ∧ (q, tupO [.str f t1, .str p t2]) ∈ l := by
  induction h with
  | nil => intro i f p e; simp at e
  | cons x ih =>
    intro i f p e
    cases i with
    | zero => simp at e; obtain ⟨rfl, rfl⟩ := e; exact ⟨_, _, _, rfl, .head _⟩
    | succ i =>
      (refine x3_2 (ih (i := i) (by simpa using e)) ?_; intro q t1 t2 a b)
      exact ⟨q, t1, t2, by simpa using a, .tail _ b⟩
section
variable {w : World} {x dx I : Addr} {vs : List Value} {n : Nat} {its : List (PySem.Str × PySem.Str)} {l : List (Addr × Obj)}
noncomputable def aSt (x I dx : Addr) (vs : List Value) (n : Nat) (l : List (Addr × Obj)) (i : Nat) (h : Heap) : Prop := h.get? I = some (itO x i) ∧ h.get? x = some (accO dx vs n) ∧ ∀ p ∈ l, h.get? p.1 = some p.2
noncomputable def aPt (its : List (PySem.Str × PySem.Str)) (i : Nat) (vals : Array Value) : Prop := ∃ f p t1 t2, its[i]? = some (f, p) ∧ vals = #[.str f t1, .str p t2]
theorem acc_walks (hT : Tups its vs l) (hxI : x ≠ I) (hlI : ∀ p ∈ l, p.1 ≠ I) (A : Around) (hh : A.handled = none) :
    WalksU pw w A I (I :: x :: l.map (·.1)) [I] its.length (aPt its) (aSt x I dx vs n l) (fun i T h => aSt x I dx vs n l (i + 1) h ∧ T ≠ I) where
  sub := fun b hb => by simp at hb; subst hb; exact .head _
  frame := fun i h h' ⟨a, b, c⟩ k => ⟨k _ (.head _) _ a, k _ (.tail _ (.head _)) _ b, fun p hp => k _ (.tail _ (.tail _ (List.mem_map_of_mem hp))) _ (c p hp)⟩
  item := fun i s Q E hi ⟨a, b, c⟩ hQ => by
    obtain ⟨⟨f, p⟩, hfp⟩ : ∃ y, its[i]? = some y := ⟨_, List.getElem?_eq_getElem hi⟩
    (refine x3_2 (hT.get hfp) ?_; intro q t1 t2 e1 e2)
    obtain ⟨h, g, d, tk, os⟩ := s
    refine it_next a b rfl e1 fun h' hs hI' => hQ q #[.str f t1, .str p t2] h' tk ⟨f, p, t1, t2, hfp, rfl⟩ ⟨_, (hs.2 _ (hlI _ e2)).trans (c _ e2), rfl, _, rfl⟩ ⟨⟨hI', (hs.2 _ hxI).trans b, fun p hp => (hs.2 _ (hlI _ hp)).trans (c p hp)⟩, hlI _ e2⟩ (fun y o hy e => (hs.2 y (by simpa using hy)).trans e)
  go := fun elts k pos i T s Q E ⟨⟨a, b, c⟩, hne⟩ hQ => wpAny_letOwnedTupleGo_listiter (l := x) (i := i + 1) ⟨_, a, rfl, rfl⟩ (hQ s.heap ⟨a, b, c⟩ fun _ _ _ e => e)
  apart := fun i T h hm => by simpa using hm.2
  done := fun s Q E ⟨a, b, c⟩ hQ => by
    obtain ⟨h, g, d, tk, os⟩ := s
    exact it_end hh a b rfl (by rw [hT.len]; exact Nat.le_refl _) fun h' k => hQ h' tk fun y o hy e => k y o (by simpa using hy) e
  self := fun i s Q E ⟨a, b, c⟩ hQ => wpAny_pyIter_listiter (l := x) (i := i) ⟨_, a, rfl, rfl⟩ hQ
end
section
variable {w : World} {A : Around} {E : Value → Shared → Prop} {x dx I : Addr} {vs : List Value} {n : Nat} {h : Heap} {g : Array GenState} {d : Drawn} {tk : Nat} {os : OsState}
theorem st_ifBound {ox : Obj} {name : PySem.Str} {f tf : Value} {Q : Option (Value × List Value) → Shared → Prop} (X : (KF w.params).In h) (hx : h.get? x = some ox) (e : findIn (KF w.params) ox.cls name = some (some f)) (ht : typeIn (KF w.params) f = some tf)
    (h3 : (tf == .type "function" || tf == .type "method_descriptor" || tf == .type "wrapper_descriptor") = true) (q : Q (some (f, [.ref x])) ⟨h, g, d, tk, os⟩) : wpAny (M w) A (bindSpecialIfBound? (.ref x) name) Q E ⟨h, g, d, tk, os⟩ := by
  unfold bindSpecialIfBound?
  refine wpAny_bind (st_special hx X e ?_)
  dsimp only
  refine wpAny_bind (wpAny_askSetting ?_)
  have b : wpAny (M w) A (do return some (← bindSpecial f (.ref x))) Q E ⟨h, g, d, tk, os⟩ := wpAny_bind (st_bindS X ht h3 (wpAny_pure q))
  split
  · exact b
  · exact wpAny_tryCatch (wpAny_bind (st_bindS X ht h3 (wpAny_pure q)))
theorem acc_pyIter {Q : Value → Shared → Prop} (X : (KF w.params).In h) (hx : h.get? x = some (accO dx vs n))
    (q : Q (.ref h.objs.size) ⟨h.push (itO x 0), g, d, tk, os⟩) : wpAny (M w) A (pyIter (.ref x)) Q E ⟨h, g, d, tk, os⟩ := by
  unfold pyIter
  refine wpAny_bind (st_special hx X (by ktn_no "k_ev") ?_)
  dsimp only
  refine wpAny_bind ?_
  unfold callSpecialIfBoundUnlessNone?
  refine wpAny_holding (wpAny_bind (st_ifBound X hx (by ktn_no "k_ev") (by ktn_no "k_ev") (by decide) ?_))
  dsimp only
  rw [if_neg (by decide)]
  refine wpAny_bind (acc_iter X hx (wpAny_pure ?_))
  dsimp only
  have hI : (h.push (itO x 0)).get? h.objs.size = some (itO x 0) := Heap.get?_push_size _ rfl
  refine wpAny_bind (st_special hI (pushIn X) (by ktn_no "k_ev") ?_)
  exact wpAny_pure q
end
/-- what a heap says of the module's names -/
structure Gl (w : World) (h : Heap) : Prop where
  k : (KF w.params).In h
  g : ∃ mg, h.Ns mainGlobals mg
  b : ∃ mb, h.Ns builtinsNs mb ∧ ∀ x : PySem.Str, x ≠ "__name__" → mb x = bootBuiltins x
theorem WfB.gl {w : World} {B h : Heap} (W : WfB w B) (k : ∀ b o, B.get? b = some o → h.get? b = some o) : Gl w h :=
  ⟨W.k.keeps k, let ⟨mg, a⟩ := W.g; ⟨mg, a.keeps k⟩, let ⟨mb, a, r⟩ := W.b; ⟨mb, a.keeps k, r⟩⟩
theorem TabOk.part {h h' : Heap} (x : TabOk h) (k : ∀ b o, b < szTop → h.get? b = some o → h'.get? b = some o) : TabOk h' := by
  obtain ⟨⟨ps, a, b⟩, ⟨qs, c, d⟩⟩ := x
  refine ⟨⟨ps, ?_, ?_⟩, ⟨qs, ?_, ?_⟩⟩
  · obtain ⟨o, vs, file, tf, flags, tg, inF, text, tt, op, e1, r1, r2, r3, r4, r5, r6, e2, r⟩ := a
    exact ⟨o, vs, file, tf, flags, tg, inF, text, tt, op, k _ _ (by decide) e1, r1, r2, r3, r4, r5, r6, k _ _ (by decide) e2, r⟩
  · obtain ⟨⟨o, vs, e1, r⟩, e2⟩ := b
    exact ⟨⟨o, vs, k _ _ (by decide) e1, r⟩, k _ _ (by decide) e2⟩
  · obtain ⟨o, vs, file, tf, flags, tg, inF, text, tt, op, e1, r1, r2, r3, r4, r5, r6, e2, r⟩ := c
    exact ⟨o, vs, file, tf, flags, tg, inF, text, tt, op, k _ _ (by decide) e1, r1, r2, r3, r4, r5, r6, k _ _ (by decide) e2, r⟩
  · obtain ⟨⟨o, vs, e1, r⟩, e2⟩ := d
    exact ⟨⟨o, vs, k _ _ (by decide) e1, r⟩, k _ _ (by decide) e2⟩
/-- the tables have grown, all else stands -/
structure Grow (h h' : Heap) : Prop where
  k : ∀ b o, ¬ Tab b → h.get? b = some o → h'.get? b = some o
  tg : ∀ t, Tab t → ∀ ps, h.get? t = some (tableObj ps) → ∃ more, h'.get? t = some (tableObj (ps ++ more))
  tb : TabOk h'
section
variable {M : Model} {A : Around} {E : Value → Shared → Prop} {h : Heap} {g : Array GenState} {d : Drawn} {tk : Nat} {os : OsState}
theorem code_grow {env : Env} {c t : Addr} {pos : Pos} {qn : PySem.Str} {scope : Scope} {Q : Value → Shared → Prop} (hc : env.code = .ref c) (hct : (c = C1 ∧ t = T1) ∨ (c = C2 ∧ t = T2)) (T : TabOk h)
    (q : ∀ code h' tk', Grow h h' → Q code ⟨h', g, d, tk', os⟩) : wpAny M A (genexprCode env pos qn scope) Q E ⟨h, g, d, tk, os⟩ := by
  have refl : Grow h h := ⟨fun _ _ _ e => e, fun _ _ ps e => ⟨#[], by simpa using e⟩, T⟩
  have main : ∀ (c t : Addr) (ps : Array Value), h.IsCode c t ps → h.TableAt c t ps → env.code = .ref c → Tab t → (∀ h' ps', Heap.ExtBut t h h' → h'.IsCode c t ps' → h'.TableAt c t ps' → TabOk h') → wpAny M A (genexprCode env pos qn scope) Q E ⟨h, g, d, tk, os⟩ := by
    intro c t ps hi ht hc tt tbk
    cases hca : codeAmong pos ps.toList with
    | some c' => exact wpAny_genexprCode_hit hc hi hca (q _ _ _ refl)
    | none =>
      refine wpAny_genexprCodeX (s := ⟨h, g, d, tk, os⟩) hc hi ht hca fun c' h' tk' hx _ _ hi' _ ht' _ => q _ h' tk' ⟨fun b o nb e => hx b o (fun z => nb (z ▸ tt)) e, fun t' tt' ps' e => ?_, tbk h' _ hx hi' ht'⟩
      by_cases z : t' = t
      · subst z
        have e1 := ht.2
        rw [e] at e1
        have e2 : ps' = ps := by
          have := Option.some.inj e1
          unfold tableObj at this
          injection this with _ _ z1 _
          injection z1
        subst e2
        exact ⟨_, ht'.2⟩
      · exact ⟨#[], by simpa using hx t' _ z e⟩
  rcases hct with ⟨rfl, rfl⟩ | ⟨rfl, rfl⟩
  · (refine x1_2 (T.a) ?_; intro ps a b)
    exact main _ _ ps a b hc (.inl rfl) fun h' ps' hx hi' ht' => ⟨⟨ps', hi', ht'⟩, let ⟨qs, p, q⟩ := T.b; ⟨qs, p.extBut hx (by decide) (by decide), q.extBut hx (by decide) (by decide)⟩⟩
  · (refine x1_2 (T.b) ?_; intro ps a b)
    exact main _ _ ps a b hc (.inr rfl) fun h' ps' hx hi' ht' => ⟨let ⟨qs, p, q⟩ := T.a; ⟨qs, p.extBut hx (by decide) (by decide), q.extBut hx (by decide) (by decide)⟩, ⟨ps', hi', ht'⟩⟩
end
theorem passing_true' (n : Nat) : passing (fun _ => true) n 0 = List.range n := by
  unfold passing; rw [List.drop_zero]; exact List.filter_eq_self.mpr fun _ _ => rfl
theorem WalksS.weak {prog : Program} {w : World} {A : Around} {I : Addr} {fp wr : List Addr} {G : Array GenState → Array GenState → Prop} {n : Nat} {P P' : Nat → Value → Prop} {St : Nat → Shared → Prop}
    (W : WalksS prog w A I fp wr G n P St) (hP : ∀ i v, P i v → P' i v) : WalksS prog w A I fp wr G n P' St where
  sub := W.sub
  grefl := W.grefl
  gtrans := W.gtrans
  frame := W.frame
  item := fun i s Q E hi st hQ => W.item i s Q E hi st fun v s' hv => hQ v s' (hP i v hv)
  done := W.done
  self := W.self
section
variable {w : World} {B : Heap} {L : Addr} {m : PySem.Str → Option Value} {cl : List (PySem.Str × Addr)} {cm : PySem.Str → Option Value} {news : List (Addr × Obj)} {s₀ : Shared} {A : Around} {E : Value → Shared → Prop} {Q : Value → Shared → Prop}
  {h : Heap} {g : Array GenState} {d d₀ : Drawn} {tk tk₀ : Nat} {os : OsState} {x dx : Addr} {vs : List Value} {n : Nat} {its : List (PySem.Str × PySem.Str)} {l : List (Addr × Obj)}
theorem gen_acc {k : Nat} {env : Env} {elt iter : Expr} {xa xb : PySem.Str} {pa pb pt : Pos} {kt : Nat} {scope : Scope} {pos : Pos} {c t : Addr} (Fv : Nat → Value → Prop)
    (R : Room (k + 5) A) (F : Fm w B L cl s₀ m cm news ⟨h, g, d₀, tk₀, os⟩) (hT : Tups its vs l) (hm : (x, accO dx vs n) ∈ news) (hlm : ∀ p ∈ l, p ∈ news)
    (hc : env.code = .ref c) (hct : (c = C1 ∧ t = T1) ∨ (c = C2 ∧ t = T2)) (hgl : env.globals = mainGlobals)
    (hco : scope.isCoroutine = false) (hclos : closureFor scope env = pure []) (hcell : ∀ y ∈ scope.names, y.2 ≠ .cell) (h0 : scope.names.lookup (".0" : PySem.Str) = some NameKind.local)
    (hxa : scope.names.lookup xa = some .local) (hxb : scope.names.lookup xb = some .local) (hab : xa ≠ xb) (hkind : scope.kind = .function)
    (hi : ∀ Q : Value → Shared → Prop, Q (.ref x) ⟨h, g, d, tk, os⟩ → wpAny (M w) A (eval iter env) Q E ⟨h, g, d, tk, os⟩) (hs : ∀ x, genFold iter env x = pure x)
    (helt : ∀ (A' : Around) E' i f p t1 t2 (s₂ : Shared) m₂ C code, A'.handled = none → A'.depth ≤ A.depth + 1 → A'.units ≤ A.units + 8 → its[i]? = some (f, p) → Gl w s₂.heap → s₂.heap.Ns C m₂ → m₂ xa = some (.str f t1) → m₂ xb = some (.str p t2) →
      wpAny (M w) A' (eval elt (genEnv scope [] C code builtinsNs env)) (fun y s₃ => Fv i y ∧ Keeps s₂ s₃) E' s₂)
    (q : ∀ a fp wr G St s', WalksS pw w A.in4 a fp wr G its.length Fv St → St 0 s' → (∀ b ∈ fp, b < s'.heap.objs.size) → a ∈ fp → (∀ i s, St i s → s.TypeIs (.ref a) "generator") → (∀ s'', Moved wr G s' s'' → Fm w B L cl s₀ m cm news s'') → (∀ b ∈ wr, h.get? b = none) → (∀ b o, ¬ Tab b → h.get? b = some o → s'.heap.get? b = some o) → Q (.ref a) s') :
    wpAny (M w) A (eval (.GeneratorExp elt [⟨.Tuple [.Name xa pa, .Name xb pb] kt pt, iter, [], 0⟩] scope pos) env) Q E ⟨h, g, d, tk, os⟩ := by
  have X := F.K
  have hx : h.get? x = some (accO dx vs n) := (F.nw _ hm).1
  have hl : ∀ p ∈ l, h.get? p.1 = some p.2 := fun p hp => (F.nw _ (hlm p hp)).1
  have big : ∀ {b : Addr}, szTop ≤ b → ¬ Tab b := fun hb z => absurd (tab_lt z) (Nat.not_lt.mpr hb)
  have hsz : szTop ≤ h.objs.size := Nat.le_trans F.szL (Nat.le_of_lt F.ns.lt)
  refine wpAny_GeneratorExp_walksQTD R.handled hco hclos hcell h0 hxa hxb hab hkind R.lt (hi _ (acc_pyIter X hx ⟨(F.wf.nl.keeps F.keep).push _, ?_⟩)) hs
  have T₂ : TabOk (h.push (itO x 0)) := F.tb.keeps fun b o e => Heap.get?_push_of_some _ e
  refine code_grow hc hct T₂ fun code h₃ tk₃ G₃ => ?_
  have hsz₃ : h.objs.size < h₃.objs.size := Heap.lt_size (G₃.k _ _ (fun z => absurd (tab_lt z) (Nat.not_lt.mpr (Nat.le_trans F.szL (Nat.le_of_lt F.ns.lt)))) (Heap.get?_push_size (o := itO x 0) _ rfl))
  have k₃ : ∀ b o, ¬ Tab b → h.get? b = some o → h₃.get? b = some o := fun b o nb e => G₃.k b o nb (Heap.get?_push_of_some _ e)
  have nB : ∀ b o, B.get? b = some o → ¬ Tab b := fun b o e z => by rcases z with rfl | rfl <;> first | (rw [F.wf.t1] at e; cases e) | (rw [F.wf.t2] at e; cases e)
  have kB : ∀ b o, B.get? b = some o → h₃.get? b = some o := fun b o e => k₃ b o (nB b o e) (F.keep b o e)
  (refine x3_7 (F.wf.bm) ?_; intro mg bm ob hg1 hg2 hg3 hg4 hg5 hg6 hg7)
  rw [hgl]
  refine wpAny_builtinsFor (hg1.keeps kB) hg2 hg3 (kB _ _ hg4) hg5 hg6 hg7 ?_
  have hI : h₃.get? h.objs.size = some (itO x 0) := G₃.k _ _ (big hsz) (Heap.get?_push_size _ rfl)
  have x₃ : h₃.get? x = some (accO dx vs n) := k₃ _ _ (big (F.nw _ hm).2.2.2) hx
  have l₃ : ∀ p ∈ l, h₃.get? p.1 = some p.2 := fun p hp => k₃ _ _ (big (F.nw _ (hlm p hp)).2.2.2) (hl p hp)
  have hxI : x ≠ h.objs.size := Nat.ne_of_lt (Heap.lt_size hx)
  have hlI : ∀ p ∈ l, p.1 ≠ h.objs.size := fun p hp => Nat.ne_of_lt (Heap.lt_size (hl p hp))
  refine ⟨h.objs.size, h.objs.size :: x :: l.map (·.1), [h.objs.size], its.length, aPt its, aSt x h.objs.size dx vs n l, _, fun _ => true, Fv, rfl, fun A' hA => acc_walks hT hxI hlI A' hA, fun i vals ⟨f, p, t1, t2, _, e⟩ => ⟨_, _, e⟩, ⟨hI, x₃, l₃⟩, fun b hb => ?_, F.wf.nl.keeps kB, fun hb => ?_, fun href hk => ⟨fun A' E' i va vb s₂ m₂ _ _ _ _ _ _ _ _ => ?_, fun A' E' i va vb s₂ m₂ hh hd hu hP _ hn ha hb hk2 => ?_⟩, fun a h₅ tk₅ gs hb ha hsz₅ hk5 W G => ?_⟩
  · rcases List.mem_cons.mp hb with rfl | hb
    · exact hsz₃
    · rcases List.mem_cons.mp hb with rfl | hb
      · exact Heap.lt_size x₃
      · (refine x1_2 (List.mem_map.mp hb) ?_; intro p hp eqX2; subst eqX2)
        exact Heap.lt_size (l₃ p hp)
  · have : cStatics < szTop := by decide
    have e : cStatics = h.objs.size := List.mem_singleton.mp hb
    exact absurd (Nat.lt_of_lt_of_le this hsz) (by rw [← e]; exact Nat.lt_irrefl _)
  · exact wpAny_pure ⟨rfl, s₂.heap, s₂.toks, rfl, fun _ _ e => e⟩
  · (refine x4_2 (hP) ?_; try clear hP; intro f p t1 t2 e1 e2)
    have e3 : va = .str f t1 ∧ vb = .str p t2 := by simpa using e2
    obtain ⟨rfl, rfl⟩ := e3
    refine helt A' E' i f p t1 t2 s₂ m₂ _ code hh hd hu e1 (F.wf.gl fun b o e => ?_) hn ha hb
    have e' := kB b o e
    refine hk2 b (List.mem_range.mpr (Heap.lt_size e')) (fun z => ?_) o (hk _ _ e')
    simp at z
    exact absurd (Heap.lt_size (F.keep _ _ e)) (by rw [z]; exact Nat.lt_irrefl _)
  · simp only [passing_true', List.length_range] at W
    have W' := WalksS.weak (P' := Fv) W fun j y hy => by
      (refine x1_2 (hy) ?_; try clear hy; intro i e hF)
      obtain ⟨hlt, e⟩ := List.getElem?_eq_some_iff.mp e
      simp at e
      subst e; exact hF
    have kk : ∀ b o, ¬ Tab b → h.get? b = some o → h₅.get? b = some o := fun b o nb e => hk5 _ _ (k₃ b o nb e)
    have nw : ∀ b o, h₃.get? b = some o → b ≠ h.objs.size → b ∉ (h₃.objs.size :: [h.objs.size]) := fun b o e hne z => by
      rcases List.mem_cons.mp z with rfl | z
      · exact absurd (Heap.lt_size e) (Nat.lt_irrefl _)
      · simp at z; exact hne z
    refine q a _ _ _ _ ⟨h₅, g.push gs, d, tk₅, os⟩ W' G (fun b hb => ?_) (.head _) (fun i s hs => ?_) (fun s'' M => ?_) (fun b hb => ?_) kk
    · show b < h₅.objs.size
      rw [hsz₅]
      rcases List.mem_cons.mp hb with rfl | hb
      · exact Nat.lt_succ_self _
      · rcases List.mem_cons.mp hb with rfl | hb
        · exact Nat.lt_succ_of_lt ha
        · exact Nat.lt_succ_of_lt (Nat.lt_trans (List.mem_range.mp hb) ha)
    · obtain ⟨⟨o, nm, qn, e1, e2, _⟩, _⟩ := hs
      exact ⟨o, e1, e2⟩
    · have km : ∀ b o, ¬ Tab b → h.get? b = some o → s''.heap.get? b = some o := fun b o nb e =>
        M.heap b o (nw b o (k₃ b o nb e) (Nat.ne_of_lt (Heap.lt_size e))) (kk b o nb e)
      have kt : ∀ b o, b < szTop → h₃.get? b = some o → s''.heap.get? b = some o := fun b o hb e =>
        M.heap b o (nw b o e (Nat.ne_of_lt (Nat.lt_of_lt_of_le hb hsz))) (hk5 _ _ e)
      refine F.moved (s := ⟨h, g, d₀, tk₀, os⟩) km (G₃.tb.part kt) ⟨M.os, fun k y e => ?_, fun hall => ?_, fun t tt ps e => ?_, trivial⟩
      · have e5 : (g.push gs)[k]? = some y := by rw [Array.getElem?_push, if_neg]; exact e; exact fun z => by rw [z] at e; simp at e
        have hlt : k ≠ g.size := fun z => by
          have e : g[k]? = some y := e
          rw [z] at e; simp at e
        rcases M.gens with z | ⟨z, _⟩
        · show s''.gens[k]? = some y
          rw [z]; exact e5
        · show s''.gens[k]? = some y
          exact (z.2 k hlt).trans e5
      · exact GenOnlyQ.bare M.gens (AllBare.push hall hb)
      · obtain ⟨more, e'⟩ := G₃.tg t tt ps (Heap.get?_push_of_some _ e)
        exact ⟨more, kt _ _ (tab_lt tt) e'⟩
    · rcases List.mem_cons.mp hb with rfl | hb
      · cases z : h.get? h₃.objs.size with
        | none => rfl
        | some o => exact absurd (Nat.lt_trans (Heap.lt_size z) hsz₃) (Nat.lt_irrefl _)
      · simp at hb; subst hb
        cases z : h.get? h.objs.size with
        | none => rfl
        | some o => exact absurd (Heap.lt_size z) (Nat.lt_irrefl _)
end
section
variable {prog : Program} {w : World} {A : Around} {E : Value → Shared → Prop} {s : Shared} {I : Addr} {fp wr : List Addr} {G : Array GenState → Array GenState → Prop} {n : Nat} {P : Nat → Value → Prop} {St : Nat → Shared → Prop} {Q : Value → Shared → Prop}
/-- a walk, told from one on -/
theorem WalksS.shift (W : WalksS prog w A I fp wr G n P St) : WalksS prog w A I fp wr G (n + 1) (fun i v => 1 ≤ i ∧ P (i - 1) v) (fun i s => 1 ≤ i ∧ St (i - 1) s) where
  sub := W.sub
  grefl := W.grefl
  gtrans := W.gtrans
  frame := fun i s h' tk ⟨a, b⟩ ht k => ⟨a, W.frame _ s h' tk b ht k⟩
  item := fun i s Q E hi ⟨a, b⟩ hQ => W.item (i - 1) s Q E (by ktn_no "om") b fun v s' hv hs' hm => hQ v s' ⟨a, hv⟩ ⟨by (first | lia | omega), by rw [show i + 1 - 1 = i - 1 + 1 by (first | lia | omega)]; exact hs'⟩ hm
  done := fun s Q E ⟨a, b⟩ hQ => W.done s Q E (by simpa using b) hQ
  self := fun i s Q E ⟨a, b⟩ hQ => W.self _ s Q E b hQ
theorem preSum_shift (val : Nat → Int) (c : Int) : ∀ k, preSum (fun i => if i = 0 then c else val (i - 1)) (k + 1) = c + preSum val k
  | 0 => by simp [preSum]
  | k + 1 => by
    have := preSum_shift val c k
    rw [preSum, this, preSum]
    simp; (first | lia | omega)
theorem call_sum2 {c : Int} {tc : Tok} (W : WalksS prog w A.in1 I fp wr G n P St) (hst : St 0 s) (hfp : ∀ b ∈ fp, b < s.heap.objs.size) (val : Nat → Int) (hval : ∀ i v, P i v → ∃ t, v = .int (val i) t)
    (hQ : ∀ s' t', Moved wr G s s' → Q (.int (c + preSum val n) t') s') : wpAny (model prog w) A (call (.builtin "sum") [.ref I, .int c tc]) Q E s := by
  refine call_function_tree PySem.F.kind_sum PySem.F.plain_sum PySem.F.entry_sum (by unfold argsOk; kernel_rfl) ?_
  have fin : ∀ (tk : Nat) (t1 : Tok) (st : Int), (st = 0 ∨ st = 2) → s.toks ≤ tk → wpAny (model prog w) A.in1 (do
      for (ty, what, hint) in [("str", "strings", "''"), ("bytes", "bytes", "b''"), ("bytearray", "bytearray", "b''")] do
        if ← isInstance (.int c t1) (.type ty) then
          rule "sum.start-refused"; raiseError "TypeError" s!"sum() can't sum {what} [use {hint}.join(seq) instead]"
      again (.builtin "sum.loop" ⟨[.ref I, ← newList [.int c t1], rawInt st, rawInt 0], []⟩))
      (fun fin s' => match fin with
        | .done f => (match (Except.ok f : Result) with | .ok (.ret v) => Q v s' | .ok _ => False | .error e => E e s')
        | .again c' => c'.quiet = true ∧ codeAny (model prog w) A c' (fun r s' => match r with | .ok (.ret v) => Q v s' | .ok _ => False | .error e => E e s') s') E { s with toks := tk } := by
    intro tk t1 st hst2 htk
    simp only [List.forIn_cons, List.forIn_nil]
    refine wpAny_bind (wpAny_bind (wpAny_bind (wpAny_isInstance (T := "int") (b := false) (typeIs_int _ _ _) _root_.PySem.sub_int_str ?_)))
    simp only [Bool.false_eq_true, if_false]
    refine wpAny_pure (wpAny_bind (wpAny_bind (wpAny_isInstance (T := "int") (b := false) (typeIs_int _ _ _) sub_int_bytes ?_)))
    simp only [Bool.false_eq_true, if_false]
    refine wpAny_pure (wpAny_bind (wpAny_bind (wpAny_isInstance (T := "int") (b := false) (typeIs_int _ _ _) sub_int_bytearray ?_)))
    simp only [Bool.false_eq_true, if_false]
    refine wpAny_pure (wpAny_pure ?_)
    refine wpAny_bind (wpAny_newObj_type ?_)
    have hSf : s.heap.objs.size ∉ fp := fun hm => Nat.lt_irrefl _ (hfp _ hm)
    have W' := WalksS.shift W
    refine wpAny_pure ⟨plainId_quiet PySem.F.plain_sum_loop _, codeAny_sum_loopAnyS W' (fun i => if i = 0 then c else val (i - 1)) (fun i v ⟨hi, hv⟩ => ?_) s.heap.objs.size hSf n 1 _ t1 0 st hst2 (by ktn_no "om") (by ktn_no "om")
      ⟨Nat.le_refl _, W.frame 0 s _ _ hst htk fun b _ o e => Heap.get?_push_of_some _ e⟩ ?_ fun s' t' hm => ?_⟩
    · obtain ⟨t, e⟩ := hval _ _ hv
      exact ⟨t, by rw [if_neg (by ktn_no "om")]; exact e⟩
    · rw [Heap.get?_push_size _ rfl, show preSum (fun i => if i = 0 then c else val (i - 1)) 1 = c by rw [preSum_shift]; simp [preSum]]
    · show Q (.int (preSum _ (n + 1)) t') s'
      rw [preSum_shift]
      exact hQ s' t' (hm.drop_new htk)
  unfold Builtin.«sum»
  simp only [List.length_cons, List.length_nil]
  rw [if_neg (by decide)]
  refine wpAny_bind (wpAny_of_eq (show Builtin.Builtins.bindParams "sum" ["start"] 0 ⟨[.int c tc], []⟩ = pure [some (.int c tc)] from rfl) ?_)
  refine wpAny_bind (W.self 0 s _ _ hst ?_)
  dsimp only
  split
  · refine wpAny_bind (wpAny_rule (wpAny_bind (wpAny_mkInt (wpAny_bind (wpAny_pure ?_)))))
    exact fin (s.toks + 1) s.toks 0 (.inl rfl) (Nat.le_succ _)
  · refine wpAny_bind (wpAny_pure ?_)
    exact fin s.toks tc 2 (.inr rfl) (Nat.le_refl _)
end
section
variable {w : World} {A : Around} {E : Value → Shared → Prop} {s : Shared} {env : Env} {x : PySem.Str} {v : Value} {pos : Pos} {m : PySem.Str → Option Value} {Q : Value → Shared → Prop}
theorem gm_L (hn : s.heap.Ns env.locals m) (hk : env.scope.kind = .function) (hx : env.kindOf x = some .local) (hb : (x == ("__debug__" : PySem.Str)) = false) (hv : m x = some v) (q : Q v s) :
    wpAny (M w) A (eval (.Name x pos) env) Q E s := wpAny_Name (wpAny_loadName_local hk hx hn hv q) hb
theorem gm_G (G : Gl w s.heap) (hk : env.scope.kind = .function) (hx : env.kindOf x = some .globalImplicit) (hL : env.globals = mainGlobals) (hb : (x == ("__debug__" : PySem.Str)) = false) (e : nsIn (KF w.params) mainGlobals x = some (some v)) (q : Q v s) :
    wpAny (M w) A (eval (.Name x pos) env) Q E s := by
  obtain ⟨mg, hg⟩ := G.g
  exact Name_function_global hk hx (loadGlobal_global (by rw [hL]; exact hg) (mg_of G.k hg e) q) hb
theorem gm_B (G : Gl w s.heap) (hk : env.scope.kind = .function) (hx : env.kindOf x = some .globalImplicit) (hL : env.globals = mainGlobals) (hL2 : env.builtins = builtinsNs) (hb : (x == ("__debug__" : PySem.Str)) = false)
    (e : nsIn (KF w.params) mainGlobals x = some none) (hv : bootBuiltins x = some v) (hn : x ≠ "__name__") (q : Q v s) : wpAny (M w) A (eval (.Name x pos) env) Q E s := by
  obtain ⟨mg, hg⟩ := G.g
  (refine x1_2 (G.b) ?_; intro mb hmb hbb)
  exact Name_function_global hk hx (loadGlobal_builtin (by rw [hL]; exact hg) (mg_none_of G.k hg e) (by rw [hL2]; exact hmb) ((hbb x hn).trans hv) q) hb
end
local macro_rules | `(tactic| ktn_no "boot") => `(tactic| first | boot_by_name | boot_fast | kernel_rfl)
section
variable {w : World} {B : Heap} {L : Addr} {m : PySem.Str → Option Value} {cl : List (PySem.Str × Addr)} {cm : PySem.Str → Option Value} {own rest news : List (Addr × Obj)} {s₀ s : Shared} {A : Around} {E : Value → Shared → Prop} {Q : Value → Shared → Prop} {n : Nat} {x : Addr} {its : List (PySem.Str × PySem.Str)} {init : Int}
noncomputable def accLen (init : Int) (its : List (PySem.Str × PySem.Str)) : Int := init + (its.map fun y => ((y.1.length : Int) + (y.2.length : Int))).sum
theorem preSum_list (l : List Int) : ∀ k, k ≤ l.length → preSum (fun i => l.getD i 0) k = (l.take k).sum
  | 0, _ => by simp [preSum]
  | k + 1, h => by
    have := preSum_list l k (by ktn_no "om")
    rw [preSum, this, List.take_succ_eq_append_getElem (by ktn_no "om"), List.sum_append]
    simp [List.getD_eq_getElem?_getD, List.getElem?_eq_getElem (show k < l.length by (first | lia | omega))]
theorem len_spec (R : Room (n + 12) A) (F : Fm w B L cl s₀ m cm (own ++ rest) s) (P : AccP x its init own) (hb : ∀ y ∈ its, y.1.length ≤ 1000000 ∧ y.2.length ≤ 1000000)
    (h : ∀ t s', Fm w B L cl s₀ m cm (own ++ rest) s' → Q (.int (accLen init its) t) s') :
   wpAny (M w) A (call (.ref a_Acc_dlen) [.ref x] []) Q E s := by
  refine call_fn (binds := [("self", .ref x)]) (fd := fd_Acc_dlen) (cmF := fun _ => none) R F (lk_Acc_dlen _) (cd_Acc_dlen _) rfl (BindsTo.of_eq rfl) (by decide) (by kernel_rfl) (fun _ _ e => (by cases e)) (fun _ _ _ e => (by cases e)) ?_ rfl rfl rfl
  obtain ⟨dx, nn, k, vs, l, es, t, rfl, hE, hT⟩ := P
  intro Qo hQo L' s₁ hL F₁ R₁
  obtain ⟨h₁, g₁, d₁, k₁, o₁⟩ := s₁
  ktn_no "ast"
  ktn_no "w"
  refine Call_ ?_ (by kernel_rfl)
  ktn_no "w"
  have hmem : ∀ p ∈ l, p ∈ ((x, accO dx vs nn) :: (dx, dictOf es k) :: l ++ rest) := fun p hp => by simp [hp]
  refine gen_acc (k := n) (c := C1) (t := T1) (its := its) (l := l) (dx := dx) (vs := vs) (n := nn) (fun i v => ∃ t, v = .int ((its.map fun y => ((y.1.length : Int) + (y.2.length : Int))).getD i 0) t) (R₁.less (by ktn_no "le")) F₁ hT (.head _) hmem (by kernel_rfl) (.inl ⟨rfl, rfl⟩) (by kernel_rfl) rfl (closureFor_none (by decide)) (by decide) (by kernel_rfl) (by kernel_rfl) (by kernel_rfl) (by decide) rfl (fun Q q => ?_) (fun x => rfl) (fun A' E' i f p t1 t2 s₂ m₂ C code hh hd hu e G hn ha hb' => ?_) fun a fp wr G' St s' W hst hfp hafp hty hmov hwr hk => ?_
  · ktn_no "nm1"
    exact q
  · have hl := hb _ (List.mem_of_getElem? e)
    refine wpAny_BinOp (Call_ (gm_B G (by kernel_rfl) (by kernel_rfl!) (by kernel_rfl) (by kernel_rfl) (by kernel_rfl) (by ktn_no "k_ev") (by ktn_no "boot") (by decide) ?_) (by kernel_rfl))
    refine cw_b (sp_cons (gm_L hn (by kernel_rfl) (by kernel_rfl!) (by kernel_rfl) ha (sp_nil ?_)) (by kernel_rfl)) (by kernel_rfl) (by kernel_rfl)
    refine SBL.len (by simp at hl; (first | lia | omega)) ?_
    refine Call_ (gm_B G (by kernel_rfl) (by kernel_rfl!) (by kernel_rfl) (by kernel_rfl) (by kernel_rfl) (by ktn_no "k_ev") (by ktn_no "boot") (by decide) ?_) (by kernel_rfl)
    refine cw_b (sp_cons (gm_L hn (by kernel_rfl) (by kernel_rfl!) (by kernel_rfl) hb' (sp_nil ?_)) (by kernel_rfl)) (by kernel_rfl) (by kernel_rfl)
    refine SBL.len (by simp at hl; (first | lia | omega)) ?_
    have ev : (its.map fun y => ((y.1.length : Int) + (y.2.length : Int))).getD i 0 = (f.length : Int) + (p.length : Int) := by
      simp only [List.getD_eq_getElem?_getD, List.getElem?_map, e]
      rfl
    refine add_int ⟨?_, s₂.heap, _, rfl, fun _ _ e => e⟩
    rw [ev]
    exact ⟨_, rfl⟩
  · have F₃ := hmov s' (Moved.refl W.grefl)
    obtain ⟨h₃, g₃, d₃, k₃, o₃⟩ := s'
    ktn_no "w"
    have hx₃ := F₃.at 0 rfl
    have hd₃ := F₃.at 1 rfl
    refine acc_get F₃.K hx₃ hd₃ hE (by ktn_no "k_ev") rfl ?_
    ktn_no "w"
    refine call_sum2 (St := St) W.in4_1 (W.frame 0 _ _ _ hst (Nat.le_succ _) fun _ _ _ e => e) hfp _ (fun i v hv => hv) fun s'' t' M => ?_
    refine hQo _ _ <| Back.of (hmov s'' ⟨M.heap, M.gens, M.drawn, M.os, Nat.le_trans (Nat.le_succ _) M.toks⟩) fun G => ?_
    have e := preSum_list (its.map fun y => ((y.1.length : Int) + (y.2.length : Int))) its.length (by simp)
    rw [List.take_of_length_le (by simp)] at e
    rw [e]
    exact h t' _ G
end
section
open Builtin Builtin.Str
section
variable {prog : Program} {w : World} {A : Around} {E : Value → Shared → Prop} {s : Shared} {Q : Value → Shared → Prop}
theorem join_tup {x : PySem.Str} {t : Tok} {a : Addr} {o : Obj} {n : Nat} {l : List (PySem.Str × Tok)} (ho : s.heap.get? a = some o) (hc : o.cls = .type "list" ∨ o.cls = .type "tuple") (hd : o.data = .seq (strValues l).toArray n) (hok : JoinOk x (l.map (·.1)) = true)
    (hq : ∀ t' k, Q (.str (Txt.join x (l.map (·.1))) t') { s with toks := k }) : wpAny (model prog w) A (call (.builtin "str.join") [.str x t, .ref a]) Q E s := by
  refine wpAny_call (codeAny_call_builtin PySem.F.slot_str_join.plain PySem.F.entry_str_join (PySem.F.slot_str_join.check _ _ _ _ _ _ _ _ (typeIs_str _ _ _) (PySem.F.args_str_join_2 _ _) ?_))
  rw [join_tree_other]
  refine wpAny_bind (Looks.here (M := model prog w) ((Looks.ld ho).andThen .now) ?_)
  rw [if_pos (by rcases hc with e | e <;> (rw [e]; decide))]
  refine wpAny_bind (wpAny_seqItems ho hd ?_)
  dsimp only
  unfold JoinOk at hok
  rw [Bool.not_eq_true'] at hok
  have g : Gives (joinTail x (strValues l)) (joinMade x l) := by
    have g0 := gives_joinTail x l hok
    cases l with
    | nil => exact g0
    | cons p r => cases r with
      | nil => exact g0
      | cons q r' => exact g0
  exact g prog w A (wants Q E) s (post_join l ⟨joinFit_length hok, hq⟩)
end
theorem join2 (f p : PySem.Str) : Txt.join (⟨#[]⟩ : PySem.Str) [f, p] = f ++ p := by
  have := fold_cat_join_nil [f, p]
  show PySem.Str.join (⟨#[]⟩ : PySem.Str) [f, p] = f ++ p
  rw [← this]
  simp only [List.foldl]
  have e : ∀ a : PySem.Str, (⟨#[]⟩ : PySem.Str) ++ a = a := fun a => by
    cases a; show (⟨#[] ++ _⟩ : PySem.Str) = _; simp
  rw [e]
noncomputable def accStr (its : List (PySem.Str × PySem.Str)) : PySem.Str := Txt.join (⟨#[]⟩ : PySem.Str) (its.map fun y => y.1 ++ y.2)
theorem joinOk_of {l : List PySem.Str} {N : Nat} (hl : l.length ≤ N) (hN : ∀ y ∈ l, y.length ≤ 10000) (h : N ≤ 900) : JoinOk (⟨#[]⟩ : PySem.Str) l = true := by
  unfold JoinOk
  have h3 : (⟨#[]⟩ : PySem.Str).length = 0 := rfl
  rw [StrLaws.joinFits hN (by rw [h3]; (first | lia | omega))]
  rfl
theorem e_empty : (Str.ofString "" : PySem.Str) = ⟨#[]⟩ := by decide
theorem vals_strs : ∀ {l : List (PySem.Str × Tok)} {ts : List PySem.Str}, l.length = ts.length → (∀ j v, (strValues l)[j]? = some v → ∃ t, v = Value.str (ts.getD j ⟨#[]⟩) t) → l.map (·.1) = ts
  | [], [], _, _ => rfl
  | (y, u) :: l, z :: ts, hl, h => by
    have h1 := h 0 (.str y u) rfl
    obtain ⟨t, e⟩ := h1
    have e : y = z := by injection e
    subst e
    rw [List.map_cons, vals_strs (l := l) (ts := ts) (by simpa using hl) fun j v hv => by simpa using h (j + 1) v (by simpa [strValues] using hv)]
  | [], _ :: _, hl, _ => by simp at hl
  | _ :: _, [], hl, _ => by simp at hl
section
variable {w : World} {B : Heap} {L : Addr} {m : PySem.Str → Option Value} {cl : List (PySem.Str × Addr)} {cm : PySem.Str → Option Value} {own rest news : List (Addr × Obj)} {s₀ s : Shared} {A : Around} {E : Value → Shared → Prop} {Q : Value → Shared → Prop} {n : Nat} {x : Addr} {its : List (PySem.Str × PySem.Str)} {init : Int}
theorem str_spec (R : Room (n + 12) A) (F : Fm w B L cl s₀ m cm (own ++ rest) s) (P : AccP x its init own) (hz : its.length ≤ 900) (hb : ∀ y ∈ its, y.1.length ≤ 5000 ∧ y.2.length ≤ 5000)
    (h : ∀ t s', Fm w B L cl s₀ m cm (own ++ rest) s' → Q (.str (accStr its) t) s') :
   wpAny (M w) A (call (.ref a_Acc_dstr) [.ref x] []) Q E s := by
  refine call_fn (binds := [("self", .ref x)]) (fd := fd_Acc_dstr) (cmF := fun _ => none) R F (lk_Acc_dstr _) (cd_Acc_dstr _) rfl (BindsTo.of_eq rfl) (by decide) (by kernel_rfl) (fun _ _ e => (by cases e)) (fun _ _ _ e => (by cases e)) ?_ rfl rfl rfl
  obtain ⟨dx, nn, k, vs, l, es, t, rfl, hE, hT⟩ := P
  intro Qo hQo L' s₁ hL F₁ R₁
  obtain ⟨h₁, g₁, d₁, k₁, o₁⟩ := s₁
  ktn_no "ast"
  ktn_no "w"
  refine GM.join ?_
  ktn_no "w"
  have hmem : ∀ p ∈ l, p ∈ ((x, accO dx vs nn) :: (dx, dictOf es k) :: l ++ rest) := fun p hp => by simp [hp]
  refine gen_acc (k := n) (c := C2) (t := T2) (its := its) (l := l) (dx := dx) (vs := vs) (n := nn) (fun i v => ∃ t, v = .str ((its.map fun y => y.1 ++ y.2).getD i ⟨#[]⟩) t) (R₁.less (by ktn_no "le")) F₁ hT (.head _) hmem (by kernel_rfl) (.inr ⟨rfl, rfl⟩) (by kernel_rfl) rfl (closureFor_none (by decide)) (by decide) (by kernel_rfl) (by kernel_rfl) (by kernel_rfl) (by decide) rfl (fun Q q => ?_) (fun x => rfl) (fun A' E' i f p t1 t2 s₂ m₂ C code hh hd hu e G hn ha hb' => ?_) fun a fp wr G' St s' W hst hfp hafp hty hmov hwr hk => ?_
  · ktn_no "nm1"
    exact q
  · have hl := hb _ (List.mem_of_getElem? e)
    simp only at hl
    obtain ⟨h₂, g₂, d₂, k₂, o₂⟩ := s₂
    refine mc_ (gm_G G (by kernel_rfl) (by kernel_rfl!) (by kernel_rfl) (by kernel_rfl) (by ktn_no "k_ev") ?_) (by kernel_rfl!) (by kernel_rfl) (by kernel_rfl)
    refine GM.join ?_
    refine cw_b (sp_cons (Tuple_ (sp_cons (gm_L hn (by kernel_rfl) (by kernel_rfl!) (by kernel_rfl) ha (sp_cons (gm_L hn (by kernel_rfl) (by kernel_rfl!) (by kernel_rfl) hb' (sp_nil (st_newTuple (by simp) (sp_nil ?_)))) (by kernel_rfl))) (by kernel_rfl))) (by kernel_rfl)) (by kernel_rfl) (by kernel_rfl)
    refine join_tup (l := [(f, t1), (p, t2)]) (Heap.get?_push_size _ rfl) (.inr rfl) rfl ?_ fun t' k' => ⟨?_, ?_⟩
    · rw [e_empty]
      exact joinOk_of (N := 2) (by simp) (fun y hy => by simp at hy; rcases hy with rfl | rfl <;> (first | lia | omega)) (by ktn_no "om")
    · refine ⟨t', ?_⟩
      rw [e_empty, show ([(f, t1), (p, t2)].map (·.1)) = [f, p] from rfl, join2]
      simp only [List.getD_eq_getElem?_getD, List.getElem?_map, e]
      rfl
    · exact ⟨_, _, rfl, fun b o eb => Heap.get?_push_of_some _ eb⟩
  · refine sp_nil ?_
    refine SC.joinGen (St := St) W.in4_2 hty hst hfp hafp (fun i v ⟨t, e⟩ => ⟨_, t, e⟩) (fun s'' lv M hI => ?_) (Nat.le_trans hz (by decide))
    obtain ⟨hI1, hI2⟩ := hI
    have ev : lv.map (·.1) = its.map fun y => y.1 ++ y.2 := vals_strs (by simpa [strValues] using hI1) fun j v hv => hI2 j v (by simpa using hv)
    rw [ev]
    refine ⟨?_, fun t' k' => ?_⟩
    · rw [e_empty]
      refine joinOk_of (N := 900) (by simpa using hz) (fun y hy => ?_) (Nat.le_refl _)
      (refine x1_2 (List.mem_map.mp hy) ?_; intro z hz' eqX2; subst eqX2)
      have := hb z hz'
      show (z.1 ++ z.2).length ≤ 10000
      have e : (z.1 ++ z.2).length = z.1.length + z.2.length := by
        show (z.1.cps ++ z.2.cps).size = _
        simp [PySem.Str.length]
      (first | lia | omega)
    · rw [e_empty]
      refine hQo _ _ <| Back.of (Fm.toks (hmov s'' M) _) fun G => h t' _ G
end

end
section
variable {w : World} {B : Heap} {L : Addr} {m : PySem.Str → Option Value} {cl : List (PySem.Str × Addr)} {cm : PySem.Str → Option Value} {own rest news : List (Addr × Obj)} {s₀ s : Shared} {A : Around} {E : Value → Shared → Prop} {Q : Value → Shared → Prop} {n : Nat} {x : Addr} {its : List (PySem.Str × PySem.Str)} {init : Int}
theorem len_b {Q : Fin → Shared → Prop} (R : Room (n + 16) A) (F : Fm w B L cl s₀ m cm (own ++ rest) s) (P : AccP x its init own) (hb : ∀ y ∈ its, y.1.length ≤ 1000000 ∧ y.2.length ≤ 1000000) (h0 : 0 ≤ accLen init its) (h1 : accLen init its < 2 ^ 63)
    (h : ∀ t s', Fm w B L cl s₀ m cm (own ++ rest) s' → Q (.done (.ret (.int (accLen init its) t))) s') : wpAny (M w) A (Builtin.«len» ⟨[.ref x], []⟩) Q E s := by
  have X := F.K
  have P' := P
  obtain ⟨dx, nn, k, vs, l, es, t, rfl, hE, hT⟩ := P
  obtain ⟨hh, g, d, tk, os⟩ := s
  have hx : hh.get? x = some (accO dx vs nn) := F.at 0 rfl
  unfold Builtin.«len» callSpecial?
  refine wpAny_bind (wpAny_pure (wpAny_bind (wpAny_bind (st_special hx X (by ktn_no "k_ev") ?_))))
  dsimp only
  refine wpAny_holding (wpAny_bind (st_bindS X (by ktn_no "k_ev") (by decide +kernel) ?_))
  dsimp only
  refine wpAny_bind ?_
  refine len_spec (n := n) (R.less (by ktn_no "le")) F P' hb fun t' s' F' => ?_
  obtain ⟨h₂, g₂, d₂, k₂, o₂⟩ := s'
  ktn_no "go"
  rw [if_neg (by ktn_no "om")]
  unfold retInt
  ktn_no "go"
  exact h _ _ (F'.toks _)
theorem len_call (R : Room (n + 17) A) (F : Fm w B L cl s₀ m cm (own ++ rest) s) (P : AccP x its init own) (hb : ∀ y ∈ its, y.1.length ≤ 1000000 ∧ y.2.length ≤ 1000000) (h0 : 0 ≤ accLen init its) (h1 : accLen init its < 2 ^ 63)
    (h : ∀ t s', Fm w B L cl s₀ m cm (own ++ rest) s' → Q (.int (accLen init its) t) s') : wpAny (M w) A (call (.builtin "len") [.ref x]) Q E s := by
  refine call_function_tree (by decide +kernel) (by decide +kernel) (entryFor_of_tree (by kernel_rfl) : entryFor table "len" = some Builtin.«len») (by unfold argsOk; kernel_rfl) ?_
  exact len_b (n := n) (R.in1.less (by ktn_no "om")) F P hb h0 h1 fun t s' F' => h t s' F'
theorem len_truthy (R : Room (n + 17) A) (F : Fm w B L cl s₀ m cm (own ++ rest) s) (P : AccP x its init own) (hb : ∀ y ∈ its, y.1.length ≤ 1000000 ∧ y.2.length ≤ 1000000) (h0 : 0 ≤ accLen init its) (h1 : accLen init its < 2 ^ 63) {Q : Bool → Shared → Prop}
    (h : ∀ s', Fm w B L cl s₀ m cm (own ++ rest) s' → Q (accLen init its != 0) s') : wpAny (M w) A (truthy (.ref x)) Q E s := by
  have X := F.K
  have P' := P
  obtain ⟨dx, nn, k, vs, l, es, t, rfl, hE, hT⟩ := P
  obtain ⟨hh, g, d, tk, os⟩ := s
  have hx : hh.get? x = some (accO dx vs nn) := F.at 0 rfl
  unfold truthy
  refine wpAny_bind ?_
  unfold callSpecial?
  refine wpAny_bind (st_special hx X (by ktn_no "k_ev") (wpAny_pure ?_))
  dsimp only
  refine wpAny_bind (st_special hx X (by ktn_no "k_ev") ?_)
  rw [if_neg (by decide)]
  refine wpAny_bind (wpAny_runValue (codeAny_builtin (entryFor_of_tree (by kernel_rfl) : entryFor table "len" = some Builtin.«len») ?_))
  rw [Around.under_plainId (by decide +kernel) _]
  refine len_b (n := n) (R.in1.less (by ktn_no "om")) F P' hb h0 h1 fun t s' F' => ?_
  exact wpAny_pure (h s' F')
end
section
variable {w : World} {B : Heap} {L : Addr} {m : PySem.Str → Option Value} {cl : List (PySem.Str × Addr)} {cm : PySem.Str → Option Value} {own rest news : List (Addr × Obj)} {s₀ s : Shared} {A : Around} {E : Value → Shared → Prop} {Q : Value → Shared → Prop} {n : Nat} {x : Addr} {its : List (PySem.Str × PySem.Str)} {init : Int}
theorem cw_t {pos : Pos} {env : Env} {e : Expr} {rest : List Expr} {T : String} {first : List Value} (h : wpAny (M w) A (spliced (backTo pos (starEach (e :: rest) env))) (fun vs s₁ => wpAny (M w) A (call (.type T) (first ++ vs)) Q E s₁) E s)
    (he : starEach (e :: rest) env = (false, eval e env) :: starEach rest env) (hp : (backTo pos (starEach rest env)).any (·.1) = false) :
    wpAny (M w) A (callWith pos (.type T) first (backTo pos (starEach (e :: rest) env)) []) Q E s := by
  rw [he] at h ⊢
  refine callWith_of (P := fun _ => True) ?_ (fun h _ => ⟨.machine, .inr (.inl rfl), Looks.now⟩) (evalArgs_plain (wpAny_mono h (fun vs s' hv => ⟨trivial, hv⟩) fun _ _ z => z))
  show ((false || (backTo pos (starEach rest env)).any (·.1)) || false) = false
  rw [hp]; rfl
theorem str_call (R : Room (n + 20) A) (F : Fm w B L cl s₀ m cm (own ++ rest) s) (P : AccP x its init own) (hz : its.length ≤ 900) (hb : ∀ y ∈ its, y.1.length ≤ 5000 ∧ y.2.length ≤ 5000)
    (h : ∀ t s', Fm w B L cl s₀ m cm (own ++ rest) s' → Q (.str (accStr its) t) s') : wpAny (M w) A (call (.type "str") [.ref x]) Q E s := by
  have X := F.K
  have P' := P
  obtain ⟨dx, nn, k, vs, l, es, t, rfl, hE, hT⟩ := P
  have hx : s.heap.get? x = some (accO dx vs nn) := F.at 0 rfl
  have hd : s.heap.get? dx = some (dictOf es k) := F.at 1 rfl
  refine kso_call (R.in1 (n := n + 19)).in1.cl X (acc_inst hx hd) (by ktn_no "k_ev") (by kernel_rfl) ?_
  exact str_spec (n := n) ((R.in1 (n := n + 19)).in1.less (k := n + 12) (by ktn_no "om")) F P' hz hb fun t s' F' => h t s' F'
theorem onlyws_spec (R : Room (n + 24) A) (F : Fm w B L cl s₀ m cm (own ++ rest) s) (P : AccP x its init own) (hz : its.length ≤ 900) (hb : ∀ y ∈ its, y.1.length ≤ 5000 ∧ y.2.length ≤ 5000) (h0 : 0 ≤ accLen init its) (h1 : accLen init its < 2 ^ 63)
    (h : ∀ s', Fm w B L cl s₀ m cm (own ++ rest) s' → Q (.bool (init == 0 && (accLen init its == 0 || Txt.isspace (accStr its)))) s') : wpAny (M w) A (call (.ref a_Acc_is_onlyws) [.ref x] []) Q E s := by
  refine call_fn (binds := [("self", .ref x)]) (fd := fd_Acc_is_onlyws) (cmF := fun _ => none) R F (lk_Acc_is_onlyws _) (cd_Acc_is_onlyws _) rfl (BindsTo.of_eq rfl) (by decide) (by kernel_rfl) (fun _ _ e => (by cases e)) (fun _ _ _ e => (by cases e)) ?_ rfl rfl rfl
  have P' := P
  obtain ⟨dx, nn, k, vs, l, es, t, rfl, hE, hT⟩ := P
  intro Qo hQo L' s₁ hL F₁ R₁
  obtain ⟨h₁, g₁, d₁, k₁, o₁⟩ := s₁
  have hb' : ∀ y ∈ its, y.1.length ≤ 1000000 ∧ y.2.length ≤ 1000000 := fun y hy => by have := hb y hy; (first | lia | omega)
  ktn_no "ast"
  ktn_no "w"
  have hx := F₁.at 0 rfl
  have hd := F₁.at 1 rfl
  refine acc_get F₁.K hx hd hE (by ktn_no "k_ev") rfl ?_
  ktn_no "w"
  cases hi : init == 0
  · simp only [Bool.false_eq_true, if_false]
    refine hQo _ _ <| Back.of (F₁.toks _) fun G => ?_
    have := h _ G
    rw [hi] at this
    exact this
  · simp only [if_true]
    ktn_no "w"
    refine len_truthy (n := n + 6) (R₁.less (by ktn_no "le")) (F₁.toks _) P' hb' h0 h1 fun s' F₂ => ?_
    obtain ⟨h₂, g₂, d₂, k₂, o₂⟩ := s'
    ktn_no "w"
    by_cases ha : accLen init its = 0
    · rw [if_pos (by rw [ha]; rfl)]
      refine hQo _ _ <| Back.of F₂ fun G => ?_
      have := h _ G
      rw [hi, ha] at this
      rw [ha]
      exact this
    · rw [if_neg (by simpa using ha)]
      ktn_no "w"
      refine Call_ ?_ (by kernel_rfl)
      ktn_no "w"
      refine cw_t ?_ (by kernel_rfl) (by kernel_rfl)
      ktn_no "w"
      refine str_call (n := n + 3) (R₁.less (by ktn_no "le")) F₂ P' hz hb fun t' s' F₃ => ?_
      obtain ⟨h₃, g₃, d₃, k₃, o₃⟩ := s'
      ktn_no "w"
      refine GM.isspace ?_
      ktn_no "w"
      refine SC.isspace ?_
      refine hQo _ _ <| Back.of F₃ fun G => ?_
      have := h _ G
      rw [hi, show (accLen init its == 0) = false by simpa using ha] at this
      exact this
end
section
variable {w : World} {A : Around} {E : Value → Shared → Prop} {x dx y : Addr} {vs : List Value} {n : Nat} {h : Heap} {g : Array GenState} {d : Drawn} {tk : Nat} {os : OsState}
noncomputable abbrev slO (a b c : Value) : Obj := ⟨.type "slice", none, .fields #[a, b, c], #[]⟩
theorem slice_eq (vs : List Value) (i : Nat) (hi : i ≤ vs.length) : (sliceRange (max 0 (min (if (i : Int) < 0 then (i : Int) + (vs.toArray.size : Int) else (i : Int)) (vs.toArray.size : Int))) (if (1 : Int) > 0 then (vs.toArray.size : Int) else -1) 1).filterMap (fun x => vs.toArray[x]?) = vs.drop i := by
  have e : max 0 (min (if (i : Int) < 0 then (i : Int) + (vs.toArray.size : Int) else (i : Int)) (vs.toArray.size : Int)) = (i : Int) := by
    simp only [List.size_toArray]; (first | lia | omega)
  rw [e, if_pos (by decide), sliceRange_one]
  rw [pick_run]
  show (vs.drop i).take _ = _
  exact List.take_of_length_le (by simp)
theorem acc_slice {i : Nat} {ti : Tok} {Q : Value → Shared → Prop} (X : (KF w.params).In h) (hx : h.get? x = some (accO dx vs n)) (hy : h.get? y = some (slO (.int i ti) .none .none)) (hi : i ≤ vs.length) (hz : vs.length ≤ 900)
    (q : Q (.ref h.objs.size) ⟨h.push ⟨.type "list", none, .seq (vs.drop i).toArray 0, #[]⟩, g, d, tk, os⟩) :
    wpAny (M w) A (call (.builtin "list.__getitem__") [.ref x, .ref y]) Q E ⟨h, g, d, tk, os⟩ := by
  refine call_bi (i := "list.__getitem__") (owner := "list") (n := "__getitem__") (b := Builtin.«list.__getitem__») (by first | exact .inr (by decide +kernel) | exact .inl (by decide +kernel)) (by decide +kernel) (by decide +kernel) (entryFor_of_tree (by kernel_rfl)) (by unfold argsOk; kernel_rfl) (looks_inst hx X (by ktn_no "k_ev")) ?_
  unfold Builtin.«list.__getitem__»
  ktn_no "go"
  dsimp only
  rw [slice_eq vs i hi]
  rw [if_neg (by have : (900 : Nat) ≤ sizeLine := by decide
                 simp; (first | lia | omega))]
  unfold newObjAsIs
  ktn_no "go"
  exact ⟨_, rfl, q⟩
end
section
variable {w : World} {A : Around} {E : Value → Shared → Prop} {x dx y z : Addr} {vs us : List Value} {n n2 : Nat} {h : Heap} {g : Array GenState} {d : Drawn} {tk : Nat} {os : OsState}
/-- self[i:] = [..] -/
theorem acc_setslice {i : Nat} {ti : Tok} {Q : Value → Shared → Prop} (X : (KF w.params).In h) (hx : h.get? x = some (accO dx vs n)) (hy : h.get? y = some (slO (.int i ti) .none .none)) (hzo : h.get? z = some ⟨.type "list", none, .seq us.toArray n2, #[]⟩) (hi : i ≤ vs.length) (hz : vs.length ≤ 900) (hu : us.length ≤ 900) (hne : x ≠ z)
    (q : ∀ h' n', Heap.SameBut x h h' → h'.get? x = some (accO dx (vs.take i ++ us) n') → Q .none ⟨h', g, d, tk, os⟩) :
    wpAny (M w) A (call (.builtin "list.__setitem__") [.ref x, .ref y, .ref z]) Q E ⟨h, g, d, tk, os⟩ := by
  refine call_bi (i := "list.__setitem__") (owner := "list") (n := "__setitem__") (b := Builtin.«list.__setitem__») (by first | exact .inr (by decide +kernel) | exact .inl (by decide +kernel)) (by decide +kernel) (by decide +kernel) (entryFor_of_tree (by kernel_rfl)) (by unfold argsOk; kernel_rfl) (looks_inst hx X (by ktn_no "k_ev")) ?_
  have hs : Builtin.List.listSameRef (.ref x) (.ref z) = false := by simp [Builtin.List.listSameRef, hne]
  unfold Builtin.«list.__setitem__»
  repeat (first | (with_reducible refine st_updateSeq (by heap_get; done) ?hz1 ?hz2 ?_) | (rw [hs, if_neg Bool.false_ne_true]) | (ktn_no "no_call"; ktn_no "st_one"))
  have e : max 0 (min (if (i : Int) < 0 then (i : Int) + (vs.toArray.size : Int) else (i : Int)) (vs.toArray.size : Int)) = (i : Int) := by
    simp only [List.size_toArray]; (first | lia | omega)
  have e2 : max (i : Int) (vs.toArray.size : Int) = (vs.toArray.size : Int) := by simp only [List.size_toArray]; (first | lia | omega)
  rw [if_neg (by unfold Builtin.List.listTooLong; have : (1800 : Nat) ≤ sizeLine := by decide
                 simp; (first | lia | omega))]
  dsimp only
  simp only [e, show (1 : Int) > 0 by decide, if_true, e2, Int.toNat_natCast]
  unfold Builtin.List.listUpdate
  dsimp only
  refine wpAny_bind (st_updateSeq hx ?_ ?_ ?_)
  · simp; (first | lia | omega)
  · simp; (first | lia | omega)
  intro h1 n1 hs1 hx1
  ktn_no "go"
  refine ⟨_, rfl, q _ n1 hs1 ?_⟩
  rw [hx1]
  simp
end
section
variable {w : World} {A : Around} {E : Value → Shared → Prop} {x dx y : Addr} {vs : List Value} {n : Nat} {h : Heap} {g : Array GenState} {d : Drawn} {tk : Nat} {os : OsState}
theorem acc_key {name : PySem.Str} {k : Value} {Q : Value → Shared → Prop} (X : (KF w.params).In h) (hx : h.get? x = some (accO dx vs n)) (q : Q k ⟨h, g, d, tk, os⟩) : wpAny (M w) A (sequenceKey (.ref x) k name) Q E ⟨h, g, d, tk, os⟩ := by
  unfold sequenceKey
  refine wpAny_bind (st_type hx ?_)
  dsimp only
  ktn_no "go"
  exact q
theorem acc_getItem {k : Value} {Q : Value → Shared → Prop} (X : (KF w.params).In h) (hx : h.get? x = some (accO dx vs n)) (q : wpAny (M w) A (call (.builtin "list.__getitem__") [.ref x, k]) Q E ⟨h, g, d, tk, os⟩) : wpAny (M w) A (getItem (.ref x) k) Q E ⟨h, g, d, tk, os⟩ := by
  unfold getItem
  refine wpAny_holding (wpAny_bind (acc_key X hx ?_))
  unfold callSpecial?
  refine wpAny_bind (wpAny_bind (st_special hx X (by ktn_no "k_ev") ?_))
  dsimp only
  refine wpAny_holding (wpAny_bind (st_bindS X (by ktn_no "k_ev") (by decide +kernel) ?_))
  refine wpAny_bind (wpAny_mono q (fun v s' hv => wpAny_pure (wpAny_pure hv)) fun _ _ z => z)
theorem acc_setItem {k v : Value} {Q : Unit → Shared → Prop} (X : (KF w.params).In h) (hx : h.get? x = some (accO dx vs n)) (q : wpAny (M w) A (call (.builtin "list.__setitem__") [.ref x, k, v]) (fun _ => Q ()) E ⟨h, g, d, tk, os⟩) : wpAny (M w) A (setItem (.ref x) k v) Q E ⟨h, g, d, tk, os⟩ := by
  unfold setItem
  refine wpAny_holding (wpAny_bind (acc_key X hx ?_))
  unfold callSpecial?
  refine wpAny_bind (wpAny_bind (st_special hx X (by ktn_no "k_ev") ?_))
  dsimp only
  refine wpAny_holding (wpAny_bind (st_bindS X (by ktn_no "k_ev") (by decide +kernel) ?_))
  refine wpAny_bind (wpAny_mono q (fun v s' hv => wpAny_pure (wpAny_pure hv)) fun _ _ z => z)
end
section
variable {w : World} {A : Around} {E : Value → Shared → Prop} {s : Shared} {env : Env}
/-- value[lower:] -/
theorem sub_slice {value e : Expr} {p pos : Pos} {Q : Value → Shared → Prop}
    (h : wpAny (M w) A (eval value env) (fun o s₁ => wpAny (M w) A (eval e env) (fun l s₂ => wpAny (M w) A (newFields "slice" [l, .none, .none]) (fun i s₃ => wpAny (M w) A (getitemInPython o) (fun _ s₄ => wpAny (M w) A (operate [i, o] (getItem o i)) Q E s₄) E s₃) E s₂) E s₁) E s)
    (ht : ∀ o r, letTemporaryGo value o r = pure ()) : wpAny (M w) A (eval (.Subscript value (.Slice (some e) none none p) pos) env) Q E s := by
  rw [arm_eval_Subscript]
  refine wpAny_bind (wpAny_mono h (fun o s₁ h₁ => ?_) fun _ _ z => z)
  refine wpAny_bind (wpAny_holding ?_)
  rw [arm_eval_Slice]
  have e1 : (valueOrNone (evalOpt (some e) env) : Sem Value) = eval e env := by kernel_rfl
  have e2 : (valueOrNone (evalOpt none env) : Sem Value) = pure .none := by kernel_rfl
  rw [e1, e2]
  refine wpAny_bind (wpAny_mono h₁ (fun l s₂ h₂ => ?_) fun _ _ z => z)
  refine wpAny_bind (wpAny_holding (wpAny_pure (wpAny_bind (wpAny_holding (wpAny_pure ?_)))))
  refine wpAny_mono h₂ (fun i s₃ h₃ => ?_) fun _ _ z => z
  refine wpAny_bind (wpAny_standAt (wpAny_bind (wpAny_mono h₃ (fun b s₄ h₄ => ?_) fun _ _ z => z)))
  refine wpAny_bind (wpAny_mono h₄ (fun r s₅ h₅ => ?_) fun _ _ z => z)
  rw [ht]
  exact wpAny_bind (wpAny_pure (wpAny_pure h₅))
end
noncomputable abbrev a_popdef : Addr := match fd_Acc_pop_from.defaults with | .ref a => a | _ => 0
theorem pd_K (P : Params) : (KF P).lookup a_popdef = some ((KF P).lookup a_popdef).get! := by kernel_rfl
/-- a list object at y that holds pairs -/
inductive LstP (y : Addr) (its : List (PySem.Str × PySem.Str)) (own : List (Addr × Obj)) : Prop
  | mk (n : Nat) (vs : List Value) (l : List (Addr × Obj)) (e : own = (y, ⟨.type "list", none, .seq vs.toArray n, #[]⟩) :: l) (hT : Tups its vs l) : LstP y its own
section
variable {w : World} {B : Heap} {L : Addr} {m : PySem.Str → Option Value} {cl : List (PySem.Str × Addr)} {cm : PySem.Str → Option Value} {own rest news : List (Addr × Obj)} {s₀ s : Shared} {A : Around} {E : Value → Shared → Prop} {Q : Value → Shared → Prop} {n : Nat} {x : Addr} {its : List (PySem.Str × PySem.Str)} {init : Int}
theorem st_newFields {h : Heap} {g : Array GenState} {d : Drawn} {tk : Nat} {os : OsState} {a b c : Value} (q : Q (.ref h.objs.size) ⟨h.push (slO a b c), g, d, tk, os⟩) : wpAny (M w) A (newFields "slice" [a, b, c]) Q E ⟨h, g, d, tk, os⟩ :=
  wpAny_newObj_type q (by show (3 : Nat) ≤ _; decide)
theorem st_operate {M : Model} {vs : List Value} {t : Sem Value} {Q : Value → Shared → Prop} (q : wpAny M A t Q E s) : wpAny M A (operate vs t) Q E s := fun Γ p hΓ => by
  rw [Sem.wp_operate]; exact q Γ p hΓ
theorem ev_slice {env : Env} {e : Expr} {p : Pos} (h : wpAny (M w) A (eval e env) (fun l s₂ => wpAny (M w) A (newFields "slice" [l, .none, .none]) Q E s₂) E s) : wpAny (M w) A (eval (.Slice (some e) none none p) env) Q E s := by
  rw [arm_eval_Slice]
  have e1 : (valueOrNone (evalOpt (some e) env) : Sem Value) = eval e env := by kernel_rfl
  have e2 : (valueOrNone (evalOpt none env) : Sem Value) = pure .none := by kernel_rfl
  rw [e1, e2]
  refine wpAny_bind (wpAny_mono h (fun l s₂ h₂ => ?_) fun _ _ z => z)
  exact wpAny_bind (wpAny_holding (wpAny_pure (wpAny_bind (wpAny_holding (wpAny_pure h₂)))))
theorem pop_from_spec {i : Nat} {ti : Tok} (R : Room (n + 12) A) (F : Fm w B L cl s₀ m cm (own ++ rest) s) (P : AccP x its init own) (hz : its.length ≤ 900) (hi : i ≤ its.length)
    (h : ∀ own1 own2 y s', AccP x (its.take i) init own1 → LstP y (its.drop i) own2 → Fm w B L cl s₀ m cm (own2 ++ (own1 ++ rest)) s' → Q (.ref y) s') :
   wpAny (M w) A (call (.ref a_Acc_pop_from) [.ref x, .int i ti] []) Q E s := by
  refine call_fn (binds := [("self", .ref x), ("i", .int i ti)]) (fd := fd_Acc_pop_from) (cmF := fun _ => none) R F (lk_Acc_pop_from _) (cd_Acc_pop_from _) rfl (BindsTo.of_defaults (T := a_popdef) rfl (F.K _ _ (pd_K _)) rfl (by with_unfolding_all rfl) (by kernel_rfl)) (by decide) (by kernel_rfl) (fun _ _ e => (by cases e)) (fun _ _ _ e => (by cases e)) ?_ rfl rfl rfl
  obtain ⟨dx, nn, k, vs, l, es, t, rfl, hE, hT⟩ := P
  intro Qo hQo L' s₁ hL F₁ R₁
  obtain ⟨h₁, g₁, d₁, k₁, o₁⟩ := s₁
  ktn_no "ast"
  ktn_no "w"
  refine sub_slice ?_ (fun o r => rfl)
  ktn_no "w"
  refine st_newFields ?_
  have F₂ := Fm.push F₁ (slO (.int i ti) .none .none) (tk := k₁)
  have hx₂ := F₂.at 1 rfl
  have hy₂ := F₂.at 0 rfl
  unfold getitemInPython
  refine wpAny_bind (st_special hx₂ F₂.K (by ktn_no "k_ev") ?_)
  dsimp only
  refine wpAny_pure (st_operate ?_)
  refine acc_getItem F₂.K hx₂ (acc_slice F₂.K hx₂ hy₂ (by rw [hT.len]; exact hi) (by rw [hT.len]; exact hz) ?_)
  have F₃ := Fm.push F₂ ⟨.type "list", none, .seq (vs.drop i).toArray 0, #[]⟩ (tk := k₁)
  refine st_L F₃ (by kernel_rfl) (by kernel_rfl!) (by kernel_rfl) fun h₄ F₄ => ?_
  ktn_no "w"
  refine wpAny_Assign_Subscript ?_ (by kernel_rfl)
  ktn_no "w"
  refine st_newList (by simp) ?_
  have F₅ := Fm.push F₄ ⟨.type "list", none, .seq ([] : List Value).toArray 0, #[]⟩ (tk := k₁ + 1)
  ktn_no "w"
  refine ev_slice ?_
  ktn_no "w"
  refine st_newFields ?_
  have F₆ := Fm.push F₅ (slO (.int i ti) .none .none) (tk := k₁ + 1)
  have hy₆ := F₆.at 0 rfl
  have hz₆ := F₆.at 1 rfl
  have hx₆ := F₆.at 4 rfl
  refine acc_setItem F₆.K hx₆ (acc_setslice F₆.K hx₆ hy₆ hz₆ (by rw [hT.len]; exact hi) (by rw [hT.len]; exact hz) (by simp) ?_ fun h' n' hs hx' => ?_)
  · exact Nat.ne_of_lt (Heap.lt_size (F₄.at 2 rfl))
  have F₇ := F₆.set (i := 4) rfl hs hx' (tk := k₁ + 1)
  rw [← List.take_append_drop i its] at hT
  (refine x4_4 (hT.split) ?_; intro va vb la lb eqX4 eqX5 h1 h2; subst eqX4; subst eqX5)
  ktn_no "w"
  have hl1 := h1.len
  have hl2 := h2.len
  have hva : va.length = i := by rw [hl1, List.length_take]; (first | lia | omega)
  refine hQo _ _ <| Back.of (Fm.toks (Fm.perm (F₇.sub (news' := ((h₁.push (slO (.int i ti) .none .none)).objs.size, ⟨.type "list", none, .seq vb.toArray 0, #[]⟩) :: (x, accO dx va n') :: (dx, dictOf es k) :: (la ++ lb) ++ rest) ?_) (news' := (((h₁.push (slO (.int i ti) .none .none)).objs.size, ⟨.type "list", none, .seq vb.toArray 0, #[]⟩) :: lb) ++ (((x, accO dx va n') :: (dx, dictOf es k) :: la) ++ rest)) ?_) _) fun G => ?_
  · have e1 : List.take i (va ++ vb) ++ [] = va := by rw [List.append_nil, ← hva]; simp
    have e2 : List.drop i (va ++ vb) = vb := by rw [← hva]; simp
    simp only [e1, e2, List.set, List.cons_append]
    exact .cons _ (.cons _ (.cons_cons _ (.cons _ (List.Sublist.refl _))))
  · ktn_no "perm_tac"
  · exact h _ _ _ _ ⟨_, _, _, _, _, _, _, rfl, hE, h1⟩ ⟨_, _, _, rfl, h2⟩ G
end
section
variable {w : World} {A : Around} {E : Value → Shared → Prop} {x dx y z : Addr} {vs us : List Value} {n n2 : Nat} {h : Heap} {g : Array GenState} {d : Drawn} {tk : Nat} {os : OsState}
theorem acc_setall {Q : Value → Shared → Prop} (X : (KF w.params).In h) (hx : h.get? x = some (accO dx vs n)) (hy : h.get? y = some (slO .none .none .none)) (hzo : h.get? z = some ⟨.type "list", none, .seq us.toArray n2, #[]⟩) (hz : vs.length ≤ 900) (hu : us.length ≤ 900) (hne : x ≠ z)
    (q : ∀ h' n', Heap.SameBut x h h' → h'.get? x = some (accO dx us n') → Q .none ⟨h', g, d, tk, os⟩) :
    wpAny (M w) A (call (.builtin "list.__setitem__") [.ref x, .ref y, .ref z]) Q E ⟨h, g, d, tk, os⟩ := by
  refine call_bi (i := "list.__setitem__") (owner := "list") (n := "__setitem__") (b := Builtin.«list.__setitem__») (by first | exact .inr (by decide +kernel) | exact .inl (by decide +kernel)) (by decide +kernel) (by decide +kernel) (entryFor_of_tree (by kernel_rfl)) (by unfold argsOk; kernel_rfl) (looks_inst hx X (by ktn_no "k_ev")) ?_
  have hs : Builtin.List.listSameRef (.ref x) (.ref z) = false := by simp [Builtin.List.listSameRef, hne]
  unfold Builtin.«list.__setitem__»
  repeat (first | (with_reducible refine st_updateSeq (by heap_get; done) ?hz1 ?hz2 ?_) | (rw [hs, if_neg Bool.false_ne_true]) | (ktn_no "no_call"; ktn_no "st_one"))
  rw [if_neg (by unfold Builtin.List.listTooLong; have : (1800 : Nat) ≤ sizeLine := by decide
                 simp; (first | lia | omega))]
  dsimp only
  unfold Builtin.List.listUpdate
  dsimp only
  refine wpAny_bind (st_updateSeq hx ?_ ?_ ?_)
  · simp; (first | lia | omega)
  · simp; (first | lia | omega)
  intro h1 n1 hs1 hx1
  ktn_no "go"
  refine ⟨_, rfl, q _ n1 hs1 ?_⟩
  rw [hx1]
  simp
end
section
variable {w : World} {B : Heap} {L : Addr} {m : PySem.Str → Option Value} {cl : List (PySem.Str × Addr)} {cm : PySem.Str → Option Value} {own own2 rest news : List (Addr × Obj)} {s₀ s : Shared} {A : Around} {E : Value → Shared → Prop} {Q : Value → Shared → Prop} {n : Nat} {x y : Addr} {its its2 : List (PySem.Str × PySem.Str)} {init : Int}
theorem ev_slice0 {env : Env} {p : Pos} (h : wpAny (M w) A (newFields "slice" [.none, .none, .none]) Q E s) : wpAny (M w) A (eval (.Slice none none none p) env) Q E s := by
  rw [arm_eval_Slice]
  have e2 : (valueOrNone (evalOpt none env) : Sem Value) = pure .none := by kernel_rfl
  rw [e2]
  exact wpAny_bind (wpAny_pure (wpAny_bind (wpAny_holding (wpAny_pure (wpAny_bind (wpAny_holding (wpAny_pure h)))))))
noncomputable abbrev a_rsdef : Addr := match fd_Acc_reset.defaults with | .ref a => a | _ => 0
theorem rd_K (P : Params) : (KF P).lookup a_rsdef = some ((KF P).lookup a_rsdef).get! := by kernel_rfl
theorem reset_none (R : Room (n + 12) A) (F : Fm w B L cl s₀ m cm (own ++ rest) s) (P : AccP x its init own) (hz : its.length ≤ 900)
    (h : ∀ own1 s', AccP x [] 0 own1 → Fm w B L cl s₀ m cm (own1 ++ rest) s' → Q .none s') :
   wpAny (M w) A (call (.ref a_Acc_reset) [.ref x] []) Q E s := by
  refine call_fn (binds := [("self", .ref x), ("startval", .none)]) (fd := fd_Acc_reset) (cmF := fun _ => none) R F (lk_Acc_reset _) (cd_Acc_reset _) rfl (BindsTo.of_defaults (T := a_rsdef) rfl (F.K _ _ (rd_K _)) rfl (by with_unfolding_all rfl) (by kernel_rfl)) (by decide) (by kernel_rfl) (fun _ _ e => (by cases e)) (fun _ _ _ e => (by cases e)) ?_ rfl rfl rfl
  obtain ⟨dx, nn, k, vs, l, es, t, rfl, hE, hT⟩ := P
  intro Qo hQo L' s₁ hL F₁ R₁
  obtain ⟨h₁, g₁, d₁, k₁, o₁⟩ := s₁
  ktn_no "ast"
  ktn_no "w"
  rw [if_pos (by decide)]
  ktn_no "w"
  refine st_newList (by simp) ?_
  have F₂ := Fm.push F₁ ⟨.type "list", none, .seq ([] : List Value).toArray 0, #[]⟩ (tk := k₁)
  refine st_L F₂ (by kernel_rfl) (by kernel_rfl!) (by kernel_rfl) fun h₃ F₃ => ?_
  ktn_no "w"
  refine wpAny_Assign_Subscript ?_ (by kernel_rfl)
  ktn_no "w"
  refine ev_slice0 ?_
  refine st_newFields ?_
  have F₄ := Fm.push F₃ (slO .none .none .none) (tk := k₁ + 1)
  have hy₄ := F₄.at 0 rfl
  have hz₄ := F₄.at 1 rfl
  have hx₄ := F₄.at 2 rfl
  refine acc_setItem F₄.K hx₄ (acc_setall F₄.K hx₄ hy₄ hz₄ (by rw [hT.len]; exact hz) (by simp) ?_ fun h' n' hs hx' => ?_)
  · exact Nat.ne_of_lt (Heap.lt_size (F₁.at 0 rfl))
  have F₅ := F₄.set (i := 2) rfl hs hx' (tk := k₁ + 1)
  ktn_no "w"
  have hne : x ≠ dx := fun e => by
    have := F₁.nd
    simp only [List.cons_append, List.map_cons, List.nodup_cons] at this
    exact this.1 (by rw [e]; exact .head _)
  refine acc_set F₅.K (F₅.at 2 rfl) hne (F₅.at 3 rfl) hE (by ktn_no "om") fun h₆ k₆ kk₆ es₆ hs₆ hd₆ hE₆ => ?_
  have F₆ := F₅.set (i := 3) rfl hs₆ hd₆ (tk := k₆)
  ktn_no "w"
  have hE' : EsOk es₆ (accM 0 (k₁ + 1)) 1 := by
    have := hE₆
    rw [upd_upd] at this
    exact this
  refine hQo _ _ <| Back.of (F₆.sub (news' := [(x, accO dx [] n'), (dx, dictOf es₆ kk₆)] ++ rest) ?_) fun G => h _ _ ⟨_, _, _, _, _, _, _, rfl, hE', .nil⟩ G
  simp only [List.set, List.cons_append, List.nil_append]
  exact .cons _ (.cons _ (.cons_cons _ (.cons_cons _ (List.sublist_append_right _ _))))
theorem reset_list (R : Room (n + 12) A) (F : Fm w B L cl s₀ m cm (own ++ (own2 ++ rest)) s) (P : AccP x its init own) (P2 : LstP y its2 own2) (hz : its.length ≤ 900) (hz2 : its2.length ≤ 900)
    (h : ∀ own1 s', AccP x its2 0 own1 → Fm w B L cl s₀ m cm (own1 ++ rest) s' → Q .none s') :
   wpAny (M w) A (call (.ref a_Acc_reset) [.ref x, .ref y] []) Q E s := by
  refine call_fn (binds := [("self", .ref x), ("startval", .ref y)]) (fd := fd_Acc_reset) (cmF := fun _ => none) R F (lk_Acc_reset _) (cd_Acc_reset _) rfl (BindsTo.of_defaults (T := a_rsdef) rfl (F.K _ _ (rd_K _)) rfl (by with_unfolding_all rfl) (by kernel_rfl)) (by decide) (by kernel_rfl) (fun _ _ e => (by cases e)) (fun _ _ _ e => (by cases e)) ?_ rfl rfl rfl
  obtain ⟨dx, nn, k, vs, l, es, t, rfl, hE, hT⟩ := P
  obtain ⟨nn2, us, l2, rfl, hT2⟩ := P2
  intro Qo hQo L' s₁ hL F₁ R₁
  obtain ⟨h₁, g₁, d₁, k₁, o₁⟩ := s₁
  ktn_no "ast"
  ktn_no "w"
  rw [if_neg (show ¬ (Value.ref y == Value.none) = true from Bool.false_ne_true)]
  ktn_no "w"
  refine wpAny_Assign_Subscript ?_ (by kernel_rfl)
  ktn_no "w"
  refine ev_slice0 ?_
  refine st_newFields ?_
  have F₄ := Fm.push (F₁.perm (news' := (x, accO dx vs nn) :: (dx, dictOf es k) :: (y, ⟨.type "list", none, .seq us.toArray nn2, #[]⟩) :: (l ++ l2 ++ rest)) (by ktn_no "perm_tac")) (slO .none .none .none) (tk := k₁)
  have hy₄ := F₄.at 0 rfl
  have hz₄ := F₄.at 3 rfl
  have hx₄ := F₄.at 1 rfl
  have hnd := F₄.nd
  simp only [List.map_cons, List.nodup_cons, List.mem_cons, not_or] at hnd
  refine acc_setItem F₄.K hx₄ (acc_setall F₄.K hx₄ hy₄ hz₄ (by rw [hT.len]; exact hz) (by rw [hT2.len]; exact hz2) ?_ fun h' n' hs hx' => ?_)
  · exact hnd.2.1.2.1
  have F₅ := F₄.set (i := 1) rfl hs hx' (tk := k₁)
  ktn_no "w"
  refine acc_set F₅.K (F₅.at 1 rfl) hnd.2.1.1 (F₅.at 2 rfl) hE (by ktn_no "om") fun h₆ k₆ kk₆ es₆ hs₆ hd₆ hE₆ => ?_
  have F₆ := F₅.set (i := 2) rfl hs₆ hd₆ (tk := k₆)
  ktn_no "w"
  have hE' : EsOk es₆ (accM 0 k₁) 1 := by
    have := hE₆
    rw [upd_upd] at this
    exact this
  refine hQo _ _ <| Back.of (F₆.sub (news' := (x, accO dx us n') :: (dx, dictOf es₆ kk₆) :: l2 ++ rest) ?_) fun G => h _ _ ⟨_, _, _, _, _, _, _, rfl, hE', hT2⟩ G
  simp only [List.set, List.cons_append, List.append_assoc]
  exact .cons _ (.cons_cons _ (.cons_cons _ (.cons _ (List.sublist_append_right _ _))))
end
section
variable {w : World} {A : Around} {E : Value → Shared → Prop} {h : Heap} {g : Array GenState} {d : Drawn} {tk : Nat} {os : OsState}
theorem acc_K (P : Params) : ∃ oc od cd sl, (KF P).lookup a_Acc = some ⟨oc, od, .cls cd, sl⟩ ∧ cd.mro = [.ref a_Acc, .type "list", .type "object"] ∧ cd.hasDel = false ∧ sl.toList[4]? = some (some (.builtin "list.__new__")) := ⟨_, _, _, _, rfl, rfl, rfl, rfl⟩
theorem acc_mro {M : Model} {P : Params} (X : (KF P).In h) : Looks M h (mroOf (.ref a_Acc)) [.ref a_Acc, .type "list", .type "object"] := (looks_clsIn X (by ktn_no "k_ev")).andThen (Looks.of_pure (by kernel_rfl))
theorem acc_made {M : Model} {P : Params} (X : (KF P).In h) : Looks M h (Bind.madeBy (.ref a_Acc)) (some "list.__new__") := by
  (refine x4_4 (acc_K P) ?_; intro oc od cd sl ho h1 h2 h3)
  intro A Q E s k q
  unfold Bind.madeBy
  refine wpAny_bind (acc_mro X A _ E s k ?_)
  rw [List.forIn_cons]
  refine wpAny_bind (wpAny_bind (wpAny_bind (wpAny_bind (wpAny_loadPart (k _ _ (X _ _ ho)) (wpAny_pure ?_)))))
  dsimp only
  rw [← Array.getElem?_toList, h3]
  exact wpAny_pure (wpAny_pure (wpAny_pure q))
theorem acc_base {M : Model} {P : Params} (X : (KF P).In h) : Looks M h (Bind.staticBase (.ref a_Acc)) (.ref a_Acc) := by
  intro A Q E s k q
  unfold Bind.staticBase
  refine wpAny_bind (acc_mro X A _ E s k ?_)
  rw [List.forIn_cons]
  exact wpAny_bind (wpAny_bind (wpAny_bind (acc_made X A _ E s k (wpAny_pure (wpAny_pure (wpAny_pure q))))))
theorem acc_isType {Q : Bool → Shared → Prop} (X : (KF w.params).In h) (q : Q true ⟨h, g, d, tk, os⟩) : wpAny (M w) A (isType (.ref a_Acc)) Q E ⟨h, g, d, tk, os⟩ := by
  (refine x4_4 (acc_K w.params) ?_; intro oc od cd sl ho h1 h2 h3)
  exact ks_wpAny_isType_cls (X _ _ ho) rfl q
theorem new_acc {rest : List Value} {R : Result → Shared → Prop} (X : (KF w.params).In h)
    (hq : R (.ok (.ret (.ref (h.objs.size + 1)))) ⟨(h.push (dictOf [] 0)).push (accO h.objs.size [] 0), g, d, tk, os⟩) :
    codeAny (M w) A (.call (.builtin "list.__new__") ⟨.ref a_Acc :: rest, []⟩) R ⟨h, g, d, tk, os⟩ := by
  (refine x4_4 (acc_K w.params) ?_; intro oc od cd sl ho h1 h2 h3)
  refine codeAny_call_builtin_code (plainId_quiet _root_.PySem.F.plain_list_new _) ?_
  have hk : builtinKind "list.__new__" = some .builtinFn := by decide +kernel
  have hsp : splitId "list.__new__" = some ("list", "__new__") := by decide +kernel
  unfold checkBuiltinCall
  rw [hk, hsp]
  dsimp only
  rw [if_pos (by decide)]
  refine wpAny_bind (acc_isType X ?_)
  rw [if_neg (by decide)]
  refine wpAny_bind (st_sub X (by ktn_no "k_ev") ?_)
  rw [if_neg (by decide)]
  try dsimp only
  refine wpAny_bind (Looks.at (acc_base X) ?_)
  refine wpAny_bind (Looks.at (acc_made X) ?_)
  dsimp only
  rw [if_neg (by decide)]
  have hs : ∃ S, Manifest.signature? "list.__new__" = some S ∧ Bind.checkArgs "list.__new__" S ⟨.ref a_Acc :: rest, []⟩ = pure () := ⟨_, by ktn_no "k_ev", by kernel_rfl⟩
  (refine x1_2 (hs) ?_; try clear hs; intro S hS hc)
  rw [hS]
  refine wpAny_of_eq hc ?_
  refine codeAny_builtin_stack _root_.PySem.F.entry_list_new rfl fun p st => ?_
  rw [Around.under_plainId _root_.PySem.F.plain_list_new _]
  have hown := owner_list_new
  simp only [hown]
  try dsimp only
  refine wpAny_bind (acc_isType X ?_)
  rw [if_neg (by decide)]
  refine wpAny_bind (st_sub X (by ktn_no "k_ev") ?_)
  rw [if_neg (by decide)]
  refine wpAny_bind (wpAny_pure ?_)
  rw [if_neg (by decide)]
  unfold newDict
  refine wpAny_bind (wpAny_newObj_type ?_)
  dsimp only
  unfold newObj newObjAsIs classHasDel
  dsimp only
  refine wpAny_bind (wpAny_bind ?_)
  refine wpAny_alloc (wpAny_bind (wpAny_bind (wpAny_load (Heap.get?_push_of_some _ (Heap.get?_push_of_some _ (X _ _ ho))) ?_)))
  dsimp only
  rw [h2]
  refine wpAny_pure ?_
  rw [if_neg (by decide)]
  refine wpAny_pure (wpAny_pure ?_)
  show R _ _
  rw [Heap.size_push]
  exact hq
theorem Room.tc {n : Nat} {C : Addr} {rest : List Value} (R : Room (n + 1) A) : Room n (A.under (.builtin "type.__call__" ⟨.ref C :: rest, []⟩)) := by
  obtain ⟨l, hl⟩ := R.frames
  have h1 : (Code.builtin "type.__call__" ⟨.ref C :: rest, []⟩).weight = 1 := by kernel_rfl
  have h2 : (Code.builtin "type.__call__" ⟨.ref C :: rest, []⟩).cUnits = 1 := by kernel_rfl
  have h3 : (Code.builtin "type.__call__" ⟨.ref C :: rest, []⟩).envs = [] := by kernel_rfl
  refine ⟨R.handled, ?_, ?_, l, ?_⟩
  · have := R.depth
    show A.depth + (Code.builtin "type.__call__" ⟨.ref C :: rest, []⟩).weight + n ≤ 800
    (first | lia | omega)
  · have := R.units
    show A.units + (Code.builtin "type.__call__" ⟨.ref C :: rest, []⟩).cUnits + _ ≤ 9000
    (first | lia | omega)
  · show pushEnvs (Code.builtin "type.__call__" ⟨.ref C :: rest, []⟩).envs A.frames = _
    rw [h3, hl]; rfl
theorem make_acc {rest : List Value} {Q : Value → Shared → Prop} (X : (KF w.params).In h)
    (hq : wpAny (M w) (A.under (.builtin "type.__call__" ⟨.ref a_Acc :: rest, []⟩)) (call (.ref a_Acc_dinit) (.ref (h.objs.size + 1) :: rest)) (fun v s' => v = .none ∧ Q (.ref (h.objs.size + 1)) s') (fun e s' => E e s') ⟨(h.push (dictOf [] 0)).push (accO h.objs.size [] 0), g, d, tk, os⟩) :
    wpAny (M w) A (call (.ref a_Acc) rest) Q E ⟨h, g, d, tk, os⟩ := by
  (refine x4_4 (acc_K w.params) ?_; intro oc od cd sl ho h1 h2 h3)
  refine wpAny_call (codeAny_of_tree ?_)
  show wpAny _ _ (callAny (.ref a_Acc) _) _ _ _
  unfold callAny
  refine wpAny_bind (wpAny_load (X _ _ ho) ?_)
  dsimp only
  unfold callAny.viaDunder
  refine wpAny_bind (st_specialK X (by ktn_no "k_ev") ?_)
  dsimp only
  rw [tc_bind]
  refine wpAny_bind (wpAny_pure (wpAny_bind (wpAny_pure ?_)))
  refine wpAny_pure (a := Fin.again (.call (.builtin "type.__call__") ⟨.ref a_Acc :: rest, []⟩)) (And.intro rfl ?_)
  refine codeAny_call_builtin_at (Code.quiet_builtin _ (by decide +kernel)) entry_typeCall (check_slot tc_kind tc_split (looks_instIn X (by ktn_no "k_ev")) (tc_args _ _ _) ?_)
  unfold Builtin.«type.__call__»
  dsimp only
  rw [if_neg (show ¬ (Value.ref a_Acc == Value.type "type") = true from Bool.false_ne_true)]
  refine wpAny_bind (Looks.at (acc_mro X) ?_)
  rw [if_neg (by decide)]
  refine wpAny_bind (Looks.at (acc_made X) ?_)
  dsimp only
  refine wpAny_bind (wpAny_pure (wpAny_bind (wpAny_holding (wpAny_call (new_acc X ?_)))))
  have X2 := pushIn (o := accO h.objs.size [] 0) (pushIn (o := dictOf [] 0) X)
  have hx : ((h.push (dictOf [] 0)).push (accO h.objs.size [] 0)).get? (h.objs.size + 1) = some (accO h.objs.size [] 0) := by
    have := Heap.get?_push_size (h.push (dictOf [] 0)) (o := accO h.objs.size [] 0) rfl
    rw [Heap.size_push] at this
    exact this
  refine wpAny_bind (st_inst hx X2 (by ktn_no "k_ev") ?_)
  rw [if_neg (by decide)]
  refine wpAny_bind (wpAny_holding ?_)
  unfold callSpecial?
  refine wpAny_bind (st_special hx X2 (by ktn_no "k_ev") ?_)
  dsimp only
  refine wpAny_holding (wpAny_bind (st_bindS X2 (by ktn_no "k_ev") (by decide +kernel) ?_))
  refine wpAny_bind (wpAny_mono hq (fun v s' hv => ?_) fun _ _ z => z)
  obtain ⟨rfl, hv⟩ := hv
  refine wpAny_pure ?_
  dsimp only
  rw [if_neg (by decide)]
  exact wpAny_pure hv
end
section
variable {w : World} {B : Heap} {L : Addr} {m : PySem.Str → Option Value} {cl : List (PySem.Str × Addr)} {cm : PySem.Str → Option Value} {own rest news : List (Addr × Obj)} {s₀ s : Shared} {A : Around} {E : Value → Shared → Prop} {Q : Value → Shared → Prop} {n : Nat} {x dx : Addr} {its : List (PySem.Str × PySem.Str)} {init : Int}
theorem acc_init_b {h : Heap} {g : Array GenState} {d : Drawn} {tk : Nat} {os : OsState} {k : Nat} (hx : h.get? x = some (accO dx [] k))
    (q : ∀ h' n', Heap.SameBut x h h' → h'.get? x = some (accO dx [] n') → Q .none ⟨h', g, d, tk, os⟩) :
    wpAny (M w) A (Builtin.«list.__init__» ⟨[.ref x], []⟩) (fun fin s' => ∃ v, fin = .done (.ret v) ∧ Q v s') E ⟨h, g, d, tk, os⟩ := by
  unfold Builtin.«list.__init__»
  ktn_no "go"
  intro h1 n1 hs1 hx1
  unfold letGo
  ktn_no "go"
  exact ⟨_, rfl, q _ _ hs1 hx1⟩
theorem init_spec {args : List Value} {k : Int} {t : Tok} (R : Room (n + 12) A) (F : Fm w B L cl s₀ m cm ((x, accO dx [] 0) :: (dx, dictOf [] 0) :: rest) s)
    (hbind : BindsTo s fd_Acc_dinit ⟨.ref x :: args, []⟩ [("self", .ref x), ("initial_size", .int k t)])
    (h : ∀ own' s', AccP x [] k own' → Fm w B L cl s₀ m cm (own' ++ rest) s' → Q .none s') :
   wpAny (M w) A (call (.ref a_Acc_dinit) (.ref x :: args) []) Q E s := by
  have CL := clo1 (P := w.params) (cl := fd_Acc_dinit.closure) (cc := a_cc) (cmF := cmC) (by kernel_rfl) (cc_K _) rfl (by decide)
  refine call_fn_at (binds := [("self", .ref x), ("initial_size", .int k t)]) (fd := fd_Acc_dinit) (cmF := cmC) R F (lk_Acc_dinit _) (cd_Acc_dinit _) rfl hbind (by decide) (by kernel_rfl) CL.1 CL.2 ?_ rfl rfl rfl
  intro Qo hQo L' s₁ hL F₁ R₁
  obtain ⟨h₁, g₁, d₁, k₁, o₁⟩ := s₁
  ktn_no "ast_at"
  refine ks_wpAt_execs_cons (_root_.PySem.wpAt_of_wpAny ?_)
  ktn_no "w"
  have hne : x ≠ dx := fun e => by
    have := F₁.nd
    simp only [List.map_cons, List.nodup_cons] at this
    exact this.1 (by rw [e]; exact .head _)
  refine acc_set F₁.K (F₁.at 0 rfl) hne (F₁.at 1 rfl) (EsOk.nil 0) (by ktn_no "om") fun h₂ k₂ kk₂ es₂ hs₂ hd₂ hE₂ => ?_
  have F₂ := F₁.set (i := 1) rfl hs₂ hd₂ (tk := k₂)
  have hE : EsOk es₂ (accM k t) 1 := hE₂
  have hx₂ := F₂.at 0 rfl
  ktn_no "ast_at"
  refine ks_wpAt_execs_cons (ks_wpAt_Expr_any (mc_at ?_ (by kernel_rfl) (by kernel_rfl)) (by kernel_rfl) (by kernel_rfl))
  refine sup_base (cc := a_cc) F₂ (lk_Acc_dinit _) (by kernel_rfl) (by ktn_no "k_val") (by ktn_no "k_val") (by kernel_rfl) (by kernel_rfl) hx₂ (by ktn_no "k_ev") (by ktn_no "k_ev") (by ktn_no "k_ev") (by decide) (by kernel_rfl) (by kernel_rfl) (by kernel_rfl) rfl rfl rfl (by decide +kernel) (by first | boot_by_name | kernel_rfl) fun h₃ F₃ => ?_
  dsimp only
  have hx₃ := F₃.at 1 rfl
  have hso₃ := F₃.at 0 rfl
  refine sup_method (b := .none) F₃.K (F₃.nK (p := (x, _)) (.tail _ (.head _)) (by decide)) hso₃ (by decide) (by ktn_no "k_ev") (by ktn_no "k_ev") (by ktn_no "k_ev") (by ktn_no "k_ev") (by ktn_no "k_ev") ?_
  refine wrap_get F₃.K hx₃ (by ktn_no "k_ev") (by ktn_no "k_ev") ⟨rfl, ?_⟩
  have F₄ := Fm.push F₃ (bndO "method-wrapper" "list.__init__" x) (tk := k₂ + 1)
  have hb₄ := F₄.at 0 rfl
  have hx₄ := F₄.at 2 rfl
  dsimp only
  refine cw_bnd0 hb₄ (.inl rfl) ?_
  refine call_bnd (Bi := Builtin.«list.__init__») hb₄ (.inl rfl) (by decide +kernel) (entryFor_of_tree (by kernel_rfl)) (fun A Q E q => ?_) ?_
  · exact wpAny_of_eq (show checkBoundCall "list.__init__" ⟨[.ref x], []⟩ = pure () by kernel_rfl) q
  refine acc_init_b hx₄ fun h' n' hs hx' => ?_
  have F₅ := ((F₄.set (i := 2) rfl hs hx' (tk := k₂ + 1)).drop 2)
  refine _root_.PySem.wpAt_of_wpAny ?_
  ktn_no "w"
  exact hQo _ _ <| Back.of (Fm.toks F₅ _) fun G => h [(x, accO dx [] n'), (dx, dictOf es₂ kk₂)] _ ⟨_, _, _, _, _, _, _, rfl, hE, .nil⟩ G
noncomputable abbrev a_inidef : Addr := match fd_Acc_dinit.defaults with | .ref a => a | _ => 0
theorem ini_K (P : Params) : (KF P).lookup a_inidef = some ((KF P).lookup a_inidef).get! := by kernel_rfl
theorem make_any {args : List Value} {k : Int} {t : Tok} (R : Room (n + 14) A) (F : Fm w B L cl s₀ m cm rest s)
    (hbind : ∀ (s : Shared) (x : Addr), (KF w.params).In s.heap → BindsTo s fd_Acc_dinit ⟨.ref x :: args, []⟩ [("self", .ref x), ("initial_size", .int k t)])
    (h : ∀ x own' s', AccP x [] k own' → Fm w B L cl s₀ m cm (own' ++ rest) s' → Q (.ref x) s') :
   wpAny (M w) A (call (.ref a_Acc) args []) Q E s := by
  obtain ⟨h₁, g₁, d₁, k₁, o₁⟩ := s
  refine make_acc F.K ?_
  have F₁ := F.push (dictOf [] 0) (tk := k₁)
  have F₂ := F₁.push (accO h₁.objs.size [] 0) (tk := k₁)
  rw [show (h₁.push (dictOf [] 0)).objs.size = h₁.objs.size + 1 from Heap.size_push _ _] at F₂
  refine init_spec (n := n) (rest := rest) (R.tc.less (by ktn_no "om")) F₂ (hbind _ _ F₂.K) fun own' s' P G => ⟨rfl, h _ _ _ P G⟩
theorem make0 (R : Room (n + 14) A) (F : Fm w B L cl s₀ m cm rest s) (h : ∀ x own' s', AccP x [] 0 own' → Fm w B L cl s₀ m cm (own' ++ rest) s' → Q (.ref x) s') :
    wpAny (M w) A (call (.ref a_Acc) [] []) Q E s := by
  refine make_any (n := n) (t := 415) R F (fun s x X => ?_) h
  exact BindsTo.of_defaults (T := a_inidef) rfl (X _ _ (ini_K _)) rfl (by with_unfolding_all rfl) (by kernel_rfl)
theorem make1 {k : Int} {t : Tok} (R : Room (n + 14) A) (F : Fm w B L cl s₀ m cm rest s) (h : ∀ x own' s', AccP x [] k own' → Fm w B L cl s₀ m cm (own' ++ rest) s' → Q (.ref x) s') :
    wpAny (M w) A (call (.ref a_Acc) [.int k t] []) Q E s := by
  refine make_any (n := n) (t := t) R F (fun s x X => ?_) h
  exact BindsTo.of_defaults (T := a_inidef) rfl (X _ _ (ini_K _)) rfl (by with_unfolding_all rfl) (by kernel_rfl)
end
section
open Builtin Builtin.ObjectAttr
/-- an object of the class _ValueFormatter -/
noncomputable abbrev vfO (dv : Addr) : Obj := ⟨.ref a_VF, some dv, .plain, #[]⟩
section
variable {w : World} {A : Around} {E : Value → Shared → Prop} {x dv : Addr} {h : Heap} {g : Array GenState} {d : Drawn} {tk : Nat} {os : OsState} {v : Value} {k c : Nat} {es : List DictEntry} {mm : PySem.Str → Option Value} {name : PySem.Str}
theorem vf_inst (hx : h.get? x = some (vfO dv)) {od : Obj} (hd : h.get? dv = some od) : InstAt h x (vfO dv) a_VF (some od) := ⟨hx, rfl, rfl, hd⟩
theorem vf_get {Q : Value → Shared → Prop} {ex : Bool} (X : (KF w.params).In h) (hx : h.get? x = some (vfO dv)) (hd : h.get? dv = some (dictOf es k)) (hD : EsOk es mm c) (hm : mm name = some v) (hv : handedIn v = true)
    (ha : findIn (KF w.params) (.ref a_VF) name = some none) (q : Q v ⟨h, g, d, tk + 1, os⟩) : wpAny (M w) A (getAttr (.ref x) name ex) Q E ⟨h, g, d, tk, os⟩ :=
  get_value X (vf_inst hx hd) (by ktn_no "k_ev") (findObj_own (attr := none) (by ktn_no "k_ev") ha (by ktn_no "k_ev") (by rw [hD.look, hm])) hv q
theorem vf_method {Q : Value × List Value → Shared → Prop} {pl : Sem Bool} {f : Addr} (X : (KF w.params).In h) (hx : h.get? x = some (vfO dv)) (hd : h.get? dv = some (dictOf es k)) (hD : EsOk es mm c)
    (hf : findIn (KF w.params) (.ref a_VF) name = some (some (.ref f))) (ht : typeIn (KF w.params) (.ref f) = some (.type "function")) (hm : mm name = none)
    (q : Q (.ref f, [.ref x]) ⟨h, g, d, tk, os⟩) : wpAny (M w) A (getMethod (.ref x) name pl) Q E ⟨h, g, d, tk, os⟩ :=
  method_fn X (vf_inst hx hd) (by ktn_no "k_ev") (by ktn_no "k_ev") hf ht (by show Option.map _ (lookIn name (dictOf es k)) = _; rw [hD.look, hm]; rfl) q
theorem vf_refuse (l : List Value) (h : l = [.ref a_VF, .type "object"]) : refuseLoop (.ref x) "__setattr__" l = pure () := by
  subst h
  rw [refuseLoop_ref]
  exact PySem.F.store_object.passes _
theorem vf_set {Q : Unit → Shared → Prop} (X : (KF w.params).In h) (hx : h.get? x = some (vfO dv)) (hne : x ≠ dv) (hd : h.get? dv = some (dictOf es k)) (hD : EsOk es mm c) (hc : c ≤ 100) (ha : findIn (KF w.params) (.ref a_VF) name = some none)
    (q : ∀ h' tk' k' es', Heap.SameBut dv h h' → h'.get? dv = some (dictOf es' k') → EsOk es' (upd mm name v) (if (mm name).isSome then c else c + 1) → Q () ⟨h', g, d, tk', os⟩) : wpAny (M w) A (setAttr (.ref x) name v) Q E ⟨h, g, d, tk, os⟩ := by
  unfold setAttr
  ktn_no "go"
  refine call_bi (i := "object.__setattr__") (owner := "object") (n := "__setattr__") (b := Builtin.«object.__setattr__») (by first | exact .inr (by decide +kernel) | exact .inl (by decide +kernel)) (by decide +kernel) (by decide +kernel) (entryFor_of_tree (by kernel_rfl)) (by unfold argsOk; kernel_rfl) (looks_inst hx X (by ktn_no "k_ev")) ?_
  rw [show (Value.ref x :: [].append [Value.str name tk, v]) = [Value.ref x, Value.str name tk, v] from rfl, osa_eq, refuse_eq]
  refine wpAny_bind (wpAny_bind (st_type hx (wpAny_bind ?_)))
  refine Looks.at (r := [.ref a_VF, .type "object"]) ((looks_clsIn X (by ktn_no "k_ev")).andThen (Looks.of_pure (by kernel_rfl))) ?_
  rw [vf_refuse _ rfl]
  have LI : Looks (model pw w) h (instanceDict x true) (some dv) := looks_idict X hx rfl (by ktn_no "k_ev") rfl
  ktn_no "go"
  refine st_lookup X ha ?_
  repeat (first | (with_reducible refine st_nsSet hd hD ?_) | (with_reducible refine Looks.at LI ?_; dsimp only) | (ktn_no "no_call"; ktn_no "st_one"))
  intro h' k' es' hs h1 hE
  refine wpAny_bind (wpAny_lookBehind h1 ?_ ?_)
  · show Data.pastItsLine (.dict es'.toArray k') = none
    have := hE.len
    split at this <;> exact if_neg (by show ¬ es'.length > 16777216 + 1; (first | lia | omega))
  ktn_no "go"
  exact ⟨_, rfl, wpAny_pure (wpAny_pure (q _ _ _ _ hs h1 hE))⟩
end

end
section
variable {w : World} {A : Around} {E : Value → Shared → Prop} {h : Heap} {g : Array GenState} {d : Drawn} {tk : Nat} {os : OsState}
theorem vf_new {x dv : Addr} {v : Value} {k c : Nat} {es : List DictEntry} {mm : PySem.Str → Option Value} {name : PySem.Str} {Q : Unit → Shared → Prop} (X : (KF w.params).In h) (hx : h.get? x = some (vfO dv)) (hne : x ≠ dv) (hd : h.get? dv = some (dictOf es k)) (hD : EsOk es mm c) (hc : c ≤ 100) (ha : findIn (KF w.params) (.ref a_VF) name = some none) (hm : mm name = none)
    (q : ∀ h' tk' k' es', Heap.SameBut dv h h' → h'.get? dv = some (dictOf es' k') → EsOk es' (upd mm name v) (c + 1) → Q () ⟨h', g, d, tk', os⟩) : wpAny (M w) A (setAttr (.ref x) name v) Q E ⟨h, g, d, tk, os⟩ :=
  vf_set X hx hne hd hD hc ha fun h' tk' k' es' a b c => q h' tk' k' es' a b (by simpa [hm] using c)
theorem make_vf {rest : List Value} {Q : Value → Shared → Prop} (X : (KF w.params).In h)
    (hq : wpAny (M w) (A.under (.builtin "type.__call__" ⟨.ref a_VF :: rest, []⟩)) (call (.ref a_VF_dinit) (.ref (h.objs.size + 1) :: rest)) (fun v s' => v = .none ∧ Q (.ref (h.objs.size + 1)) s') (fun e s' => E e s') ⟨(h.push (dictOf [] 0)).push (vfO h.objs.size), g, d, tk, os⟩) :
    wpAny (M w) A (call (.ref a_VF) rest) Q E ⟨h, g, d, tk, os⟩ := by
  have Y := makes_of (M := M w) X (C := a_VF) (by kernel_rfl)
  have Y' := Y
  obtain ⟨⟨oc, od, cd, sl, hC, e1, e2, e4⟩, made, base, self, top, call, typ⟩ := Y
  have hm : Looks (M w) h (mroOf (.ref a_VF)) cd.mro := ((Looks.ld (part := none) hC).andThen .now).andThen .now
  refine wpAny_call (codeAny_of_tree ?_)
  show wpAny _ _ (callAny (.ref a_VF) _) _ _ _
  unfold callAny
  refine wpAny_bind (wpAny_load hC ?_)
  dsimp only
  unfold callAny.viaDunder
  refine wpAny_bind (Looks.at call ?_)
  dsimp only
  rw [tc_bind]
  refine wpAny_bind (wpAny_pure (wpAny_bind (wpAny_pure ?_)))
  refine wpAny_pure (a := Fin.again (.call (.builtin "type.__call__") ⟨.ref a_VF :: rest, []⟩)) (And.intro rfl ?_)
  refine codeAny_call_builtin_at (Code.quiet_builtin _ (by decide +kernel)) entry_typeCall (check_slot tc_kind tc_split typ (tc_args _ _ _) ?_)
  unfold Builtin.«type.__call__»
  dsimp only
  rw [if_neg (show ¬ (Value.ref a_VF == Value.type "type") = true from Bool.false_ne_true)]
  refine wpAny_bind (Looks.at hm ?_)
  rw [e4, if_neg (by decide)]
  refine wpAny_bind (Looks.at made ?_)
  dsimp only
  refine wpAny_bind (wpAny_pure (wpAny_bind (wpAny_holding (wpAny_call (new_K Y' (looks_findIn X (r := some (.ref a_VF_dinit)) (by ktn_no "k_ev")) (.inl (by decide)) ?_)))))
  have X2 := pushIn (o := vfO h.objs.size) (pushIn (o := dictOf [] 0) X)
  have hx : ((h.push (dictOf [] 0)).push (vfO h.objs.size)).get? (h.objs.size + 1) = some (vfO h.objs.size) := by
    have := Heap.get?_push_size (h.push (dictOf [] 0)) (o := vfO h.objs.size) rfl
    rw [Heap.size_push] at this
    exact this
  refine wpAny_bind (st_inst hx X2 (by ktn_no "k_ev") ?_)
  rw [if_neg (by decide)]
  refine wpAny_bind (wpAny_holding ?_)
  unfold callSpecial?
  refine wpAny_bind (st_special hx X2 (by ktn_no "k_ev") ?_)
  dsimp only
  refine wpAny_holding (wpAny_bind (st_bindS X2 (by ktn_no "k_ev") (by decide +kernel) ?_))
  refine wpAny_bind (wpAny_mono hq (fun v s' hv => ?_) fun _ _ z => z)
  obtain ⟨rfl, hv⟩ := hv
  refine wpAny_pure ?_
  dsimp only
  rw [if_neg (by decide)]
  exact wpAny_pure hv
end
section
variable {w : World} {B : Heap} {L : Addr} {m : PySem.Str → Option Value} {cl : List (PySem.Str × Addr)} {cm : PySem.Str → Option Value} {news : List (Addr × Obj)} {s₀ s : Shared} {A : Around} {E : Value → Shared → Prop} {Q : Value → Shared → Prop} {h : Heap} {g₀ : Array GenState} {d₀ : Drawn} {tk₀ : Nat} {os₀ : OsState} {env : Env} {pos : Pos}
theorem Fm.set1 {g : Array GenState} {d : Drawn} {tk : Nat} (F : Fm w B L cl s₀ m cm news ⟨h, g, d₀, tk₀, os₀⟩) {i : Nat} {x : Addr} {o o' : Obj} (hi : news[i]? = some (x, o)) {h' : Heap} (hs : Heap.SameBut x h h') (ho : h'.get? x = some o') : Fm w B L cl s₀ m cm (news.set i (x, o')) ⟨h', g, d, tk, os₀⟩ := Fm.set (s := ⟨h, g, d, tk, os₀⟩) F.withD hi hs ho
theorem Fm.push1 {g : Array GenState} {d : Drawn} {tk : Nat} (F : Fm w B L cl s₀ m cm news ⟨h, g, d₀, tk₀, os₀⟩) (o : Obj) (hf : o.isFreed = false := by rfl) : Fm w B L cl s₀ m cm ((h.objs.size, o) :: news) ⟨h.push o, g, d, tk, os₀⟩ := Fm.push (s := ⟨h, g, d, tk, os₀⟩) F.withD o hf
theorem FmK (F : Fm w B L cl s₀ m cm news ⟨h, g₀, d₀, tk₀, os₀⟩) : (KF w.params).In h := F.K
theorem cw_f {f : Addr} {first : List Value} {e : Expr} {rest : List Expr} (F : Fm w B L cl s₀ m cm news ⟨h, g₀, d₀, tk₀, os₀⟩) (hk : keepIn (KF w.params) (.ref f) = true) (he : starEach (e :: rest) env = (false, eval e env) :: starEach rest env) (hp : (backTo pos (starEach rest env)).any (·.1) = false)
    (q : wpAny (M w) A (spliced (backTo pos (starEach (e :: rest) env))) (fun vs s₁ => (KF w.params).In s₁.heap ∧ wpAny (M w) A (call (.ref f) (first ++ vs)) Q E s₁) E s) :
    wpAny (M w) A (callWith pos (.ref f) first (backTo pos (starEach (e :: rest) env)) []) Q E s := callWith_K F.K hk q he hp
theorem cw_r0 {f : Addr} {first : List Value} (F : Fm w B L cl s₀ m cm news ⟨h, g₀, d₀, tk₀, os₀⟩) (hk : keepIn (KF w.params) (.ref f) = true) {g : Array GenState} {d : Drawn} {tk : Nat} {os : OsState} (q : wpAny (M w) A (call (.ref f) first) Q E ⟨h, g, d, tk, os⟩) :
    wpAny (M w) A (callWith pos (.ref f) first (backTo pos (starEach [] env)) []) Q E ⟨h, g, d, tk, os⟩ := cw_f0 (s := ⟨h, g, d, tk, os⟩) F.K hk q
end
local macro_rules | `(tactic| ktn_no "x1") => `(tactic| first
  | ktn_no "w1"
  | (with_reducible refine Call_ ?_ ?a1; (case a1 => kernel_rfl))
  | (with_reducible refine cw_f (by assumption) ?a0 ?a1 ?a2 ?_; (case a0 => kernel_rfl); (case a1 => kernel_rfl); (case a2 => kernel_rfl))
  | (with_reducible refine cw_r0 (by assumption) ?a1 ?_; (case a1 => kernel_rfl))
  | (with_reducible refine cw_t ?_ ?a1 ?a2; (case a1 => kernel_rfl); (case a2 => kernel_rfl))
  | (with_reducible refine And.intro (FmK (by assumption)) ?_; try dsimp only)
  | (with_reducible refine st_L (by assumption) ?a1 ?a2 ?a3 (fun _ _ => ?_); (case a1 => kernel_rfl); (case a2 => kernel_rfl!); (case a3 => kernel_rfl)))
local macro_rules | `(tactic| ktn_no "x") => `(tactic| repeat ktn_no "x1")
noncomputable abbrev lsO (l : List Value) (n : Nat) : Obj := ⟨.type "list", none, .seq l.toArray n, #[]⟩
noncomputable abbrev vfM (mx : Int) (t1 : Tok) (t2 : Tok) (t3 : Tok) (sc : PySem.Str) (t4 : Tok) (ll ac : Addr) : PySem.Str → Option Value :=
  upd (upd (upd (upd (upd (upd (fun _ => none) "_maxlen" (.int mx t1)) "_continuation_ws" (.str "" t2)) "_continuation_ws_len" (.int 0 t3)) "_splitchars" (.str sc t4)) "_lines" (.ref ll)) "_current_line" (.ref ac)
/-- a _ValueFormatter at x -/
inductive VfP (x : Addr) (mx : Int) (sc : PySem.Str) (lines : List PySem.Str) (its : List (PySem.Str × PySem.Str)) (own : List (Addr × Obj)) : Prop
  | mk (dv : Addr) (k : Nat) (es : List DictEntry) (t1 t2 t3 t4 : Tok) (ll ac : Addr) (l : List (PySem.Str × Tok)) (n : Nat) (oa : List (Addr × Obj)) (e : own = (x, vfO dv) :: (dv, dictOf es k) :: (ll, lsO (strValues l) n) :: oa) (hE : EsOk es (vfM mx t1 t2 t3 sc t4 ll ac) 6) (hl : l.map (·.1) = lines) (hP : AccP ac its 0 oa) : VfP x mx sc lines its own
section
variable {w : World} {B : Heap} {L : Addr} {m : PySem.Str → Option Value} {cl : List (PySem.Str × Addr)} {cm : PySem.Str → Option Value} {own rest news : List (Addr × Obj)} {s₀ s : Shared} {A : Around} {E : Value → Shared → Prop} {Q : Value → Shared → Prop} {n : Nat} {x dx : Addr} {its : List (PySem.Str × PySem.Str)} {init : Int}
theorem vf_init {mx : Int} {sc : PySem.Str} {t0 t1 t2 t4 : Tok} (R : Room (n + 16) A) (F : Fm w B L cl s₀ m cm ((x, vfO dx) :: (dx, dictOf [] 0) :: rest) s)
    (h : ∀ own' s', VfP x mx sc [] [] own' → Fm w B L cl s₀ m cm (own' ++ rest) s' → Q .none s') :
   wpAny (M w) A (call (.ref a_VF_dinit) [.ref x, .int 0 t0, .int mx t1, .str "" t2, .str sc t4] []) Q E s := by
  refine call_fn (binds := [("self", .ref x), ("headerlen", .int 0 t0), ("maxlen", .int mx t1), ("continuation_ws", .str "" t2), ("splitchars", .str sc t4)]) (fd := fd_VF_dinit) (cmF := fun _ => none) R F (lk_VF_dinit _) (cd_VF_dinit _) rfl (BindsTo.of_eq rfl) (by decide) (by kernel_rfl) (fun _ _ e => (by cases e)) (fun _ _ _ e => (by cases e)) ?_ rfl rfl rfl
  intro Qo hQo L' s₁ hL F₁ R₁
  obtain ⟨h₁, g₁, d₁, k₁, o₁⟩ := s₁
  have hne : x ≠ dx := fun e => by
    have := F₁.nd
    simp only [List.map_cons, List.nodup_cons] at this
    exact this.1 (by rw [e]; exact .head _)
  ktn_no "ast"
  ktn_no "x"
  refine vf_new F₁.K (F₁.at 0 rfl) hne (F₁.at 1 rfl) (EsOk.nil 0) (by ktn_no "om") (by ktn_no "k_ev") (by kernel_rfl) fun h₂ k₂ kk₂ es₂ hs₂ hd₂ hE₂ => ?_
  have F₂ := F₁.set1 (i := 1) (d := d₁) (tk := k₂) rfl hs₂ hd₂
  ktn_no "x"
  refine vf_new F₂.K (F₂.at 0 rfl) hne (F₂.at 1 rfl) hE₂ (by ktn_no "om") (by ktn_no "k_ev") (by kernel_rfl) fun h₃ k₃ kk₃ es₃ hs₃ hd₃ hE₃ => ?_
  have F₃ := F₂.set1 (i := 1) (d := d₁) (tk := k₃) rfl hs₃ hd₃
  ktn_no "x"
  refine SBL.len (by decide) ?_
  ktn_no "x"
  refine vf_new F₃.K (F₃.at 0 rfl) hne (F₃.at 1 rfl) hE₃ (by ktn_no "om") (by ktn_no "k_ev") (by kernel_rfl) fun h₄ k₄ kk₄ es₄ hs₄ hd₄ hE₄ => ?_
  have F₄ := F₃.set1 (i := 1) (d := d₁) (tk := k₄) rfl hs₄ hd₄
  ktn_no "x"
  refine vf_new F₄.K (F₄.at 0 rfl) hne (F₄.at 1 rfl) hE₄ (by ktn_no "om") (by ktn_no "k_ev") (by kernel_rfl) fun h₅ k₅ kk₅ es₅ hs₅ hd₅ hE₅ => ?_
  have F₅ := F₄.set1 (i := 1) (d := d₁) (tk := k₅) rfl hs₅ hd₅
  ktn_no "x"
  refine st_newList (by simp) ?_
  have F₆ := F₅.push1 (d := d₁) (tk := k₅) (lsO [] 0)
  ktn_no "x"
  refine vf_new F₆.K (F₆.at 1 rfl) hne (F₆.at 2 rfl) hE₅ (by ktn_no "om") (by ktn_no "k_ev") (by kernel_rfl) fun h₇ k₇ kk₇ es₇ hs₇ hd₇ hE₇ => ?_
  have F₇ := F₆.set1 (i := 2) (d := d₁) (tk := k₇) rfl hs₇ hd₇
  ktn_no "x"
  refine make1 (n := n + 1) (R₁.less (by ktn_no "le")) F₇ fun ac oa s' P F₈ => ?_
  obtain ⟨h₈, g₈, d₈, k₈, o₈⟩ := s'
  have F₉ := F₈.perm (news' := (x, vfO dx) :: (dx, dictOf es₇ kk₇) :: (h₅.objs.size, lsO [] 0) :: (oa ++ rest)) (by simp only [List.set]; ktn_no "perm_tac")
  ktn_no "x"
  refine vf_new F₉.K (F₉.at 0 rfl) hne (F₉.at 1 rfl) hE₇ (by ktn_no "om") (by ktn_no "k_ev") (by kernel_rfl) fun h' k' kk' es' hs' hd' hE' => ?_
  have F' := F₉.set1 (i := 1) (d := d₈) (tk := k') rfl hs' hd'
  ktn_no "x"
  refine hQo _ _ <| Back.of F' fun G => h ((x, vfO dx) :: (dx, dictOf es' kk') :: (h₅.objs.size, lsO [] 0) :: oa) _ ⟨_, _, _, _, _, _, _, _, _, [], _, _, rfl, hE', rfl, P⟩ (by simpa using G)
end
noncomputable abbrev NoE : Value → Shared → Prop := fun _ _ => False
noncomputable def LoopC (w : World) (A : Around) (target : Expr) (it : Value) (body orelse : List Stmt) (env : Env) (Q : Flow → Shared → Prop) (s : Shared) : Prop :=
  codeAny (M w) A (.forLoop target it body orelse env) (fun r s' => match r with | .ok f => Q f s' | .error _ => False) s
section
variable {w : World} {A : Around} {s : Shared} {target iter : Expr} {it : Value} {body orelse : List Stmt} {env : Env} {Q : Flow → Shared → Prop} {pos : Pos}
theorem loop_step (h : wpAny (M w) A (pyNext it) (fun r s₁ => match r with
      | none => wpAny (M w) A (execs orelse env) Q NoE s₁
      | some v => wpAny (M w) A (letOwnedTupleGo target it v) (fun _ s₁' => wpAny (M w) A (assign target env v) (fun _ s₂ => wpAny (M w) A (execs body env) (fun f s₃ => match f with
          | .next => LoopC w A target it body orelse env Q s₃
          | .cont => LoopC w A target it body orelse env Q s₃
          | .brk => Q .next s₃
          | .ret v => Q (.ret v) s₃) NoE s₂) NoE s₁') NoE s₁) NoE s) : LoopC w A target it body orelse env Q s := by
  unfold LoopC
  refine codeAny_of_tree ?_
  rw [Around.under_of_weight rfl]
  show wpAny _ A ((forTurn target it body orelse env).onRaise (fun x => do noteFrame x env; theTreesLotGoes x)) _ _ s
  refine wpAny_onRaise ?_
  unfold forTurn
  refine wpAny_bind (wpAny_standAt (wpAny_bind (wpAny_onRaise (wpAny_mono h (fun r s₁ h₁ => ?_) fun _ _ z => z.elim))))
  cases r with
  | none =>
    refine wpAny_pure ⟨rfl, codeAny_block (wpAny_mono h₁ (fun _ _ z => z) fun _ _ z => z.elim)⟩
  | some v =>
    refine wpAny_bind (wpAny_mono h₁ (fun _ s₁' h₁' => ?_) fun _ _ z => z.elim)
    refine wpAny_bind (wpAny_mono h₁' (fun _ s₂ h₂ => wpAny_bind (wpAny_mono h₂ (fun f s₃ h₃ => ?_) fun _ _ z => z.elim)) fun _ _ z => z.elim)
    cases f with
    | next => exact wpAny_pure ⟨rfl, h₃⟩
    | cont => exact wpAny_pure ⟨rfl, h₃⟩
    | brk => exact wpAny_pure h₃
    | ret v => exact wpAny_pure h₃
theorem wFor (h : wpAny (M w) A (eval iter env) (fun xv s₁ => wpAny (M w) A (pyIter xv) (fun it s₂ => LoopC w A target it body orelse env Q s₂) NoE s₁) NoE s)
    (hs : ∀ x, foldedSetIterable iter env x = pure x) : wpAny (M w) A (exec (.For target iter body orelse pos) env) Q NoE s := by
  refine wpAny_For (wpAny_mono h (fun xv s₁ h₁ => wpAny_mono h₁ (fun it s₂ h₂ => ?_) fun _ _ z => z) fun _ _ z => z) hs
  refine codeAny_mono h₂ fun r s' z => ?_
  cases r with
  | ok f => exact z
  | error e => exact z.elim
end
/-- an iterator at I that has n things to give -/
structure Steps (w : World) (I : Addr) (n : Nat) (P : Nat → Value → Prop) (Ob : Nat → Obj → Prop) (Sd : Heap → Prop) : Prop where
  item : ∀ (A : Around) (i : Nat) (h : Heap) (g : Array GenState) (d : Drawn) (tk : Nat) (os : OsState) (o : Obj) (Q : Option Value → Shared → Prop) (E : Value → Shared → Prop), i < n → h.get? I = some o → Ob i o → Sd h →
    (∀ v h' tk' o', P i v → Ob (i + 1) o' → h'.get? I = some o' → Heap.SameBut I h h' → Q (some v) ⟨h', g, d, tk', os⟩) → wpAny (M w) A (pyNext (.ref I)) Q E ⟨h, g, d, tk, os⟩
  done : ∀ (A : Around) (h : Heap) (g : Array GenState) (d : Drawn) (tk : Nat) (os : OsState) (o : Obj) (Q : Option Value → Shared → Prop) (E : Value → Shared → Prop), A.handled = none → h.get? I = some o → Ob n o → Sd h →
    (∀ h' tk', (∀ b ob, b ≠ I → h.get? b = some ob → h'.get? b = some ob) → Q none ⟨h', g, d, tk', os⟩) → wpAny (M w) A (pyNext (.ref I)) Q E ⟨h, g, d, tk, os⟩
section
variable {w : World} {B : Heap} {L I : Addr} {m : PySem.Str → Option Value} {cl : List (PySem.Str × Addr)} {cm : PySem.Str → Option Value} {rest news : List (Addr × Obj)} {s₀ s : Shared} {A : Around} {E : Value → Shared → Prop} {h : Heap} {g : Array GenState} {d d₀ : Drawn} {tk tk₀ : Nat} {os : OsState} {o : Obj} {n i : Nat} {P : Nat → Value → Prop} {Ob : Nat → Obj → Prop} {Sd : Heap → Prop} {Q : Option Value → Shared → Prop}
theorem Fm.lose (F : Fm w B L cl s₀ m cm ((I, o) :: news) s) {h' : Heap} {tk : Nat} (k : ∀ b ob, b ≠ I → s.heap.get? b = some ob → h'.get? b = some ob) : Fm w B L cl s₀ m cm news { s with heap := h', toks := tk } := by
  (refine x0_4 (F.nw _ (.head _)) ?_; intro hI hIL hIB hIs)
  have nI : ∀ t, Tab t → t ≠ I := fun t ht e => tab_ne ht hIs e.symm
  have hnd := List.nodup_cons.mp F.nd
  (refine x3_2 (F.ns) ?_; intro oL es ep hL r)
  refine { wf := F.wf, ns := ⟨oL, es, ep, k _ _ hIL.symm hL, r⟩, keep := fun b ob e => k b ob (fun q => by rw [q, hIB] at e; cases e) (F.keep b ob e), above := F.above, nw := fun p hp => ?_, nd := hnd.2, ce := fun n c e => ?_, cd := fun n c e => ?_, cp := F.cp, tb := F.tb.part fun b ob hb e => k b ob (fun q => absurd hb (by rw [q]; exact Nat.not_lt.mpr hIs)) e, rl := ⟨F.rl.os, F.rl.gens, F.rl.bare, fun t ht ps e => ?_, trivial⟩ }
  · (refine x0_4 (F.nw p (.tail _ hp)) ?_; intro a b c d)
    exact ⟨k _ _ (fun q => hnd.1 (List.mem_map.mpr ⟨p, hp, q⟩)) a, b, c, d⟩
  · (refine x1_2 (F.ce n c e) ?_; intro oc hoc hd)
    exact ⟨oc, k _ _ (fun q => (F.cd n c e).2.1 (by rw [q]; exact .head _)) hoc, hd⟩
  · (refine x0_3 (F.cd n c e) ?_; intro a b c')
    exact ⟨a, fun q => b (.tail _ q), c'⟩
  · obtain ⟨m, e'⟩ := F.rl.tg t ht ps e
    exact ⟨m, k _ _ (nI t ht) e'⟩
theorem Fm.nextI (F : Fm w B L cl s₀ m cm ((I, o) :: news) ⟨h, g, d₀, tk₀, os⟩) (S : Steps w I n P Ob Sd) (hi : i < n) (ho : Ob i o) (hs : Sd h)
    (q : ∀ v h' tk' o', P i v → Ob (i + 1) o' → Fm w B L cl s₀ m cm ((I, o') :: news) ⟨h', g, d, tk', os⟩ → Q (some v) ⟨h', g, d, tk', os⟩) : wpAny (M w) A (pyNext (.ref I)) Q E ⟨h, g, d, tk, os⟩ :=
  S.item A i h g d tk os o Q E hi (F.at 0 rfl) ho hs fun v h' tk' o' hv ho' hI' hs' => q v h' tk' o' hv ho' (F.set1 (i := 0) rfl hs' hI')
theorem Fm.endI (F : Fm w B L cl s₀ m cm ((I, o) :: news) ⟨h, g, d₀, tk₀, os⟩) (S : Steps w I n P Ob Sd) (hh : A.handled = none) (hi : i = n) (ho : Ob i o) (hs : Sd h)
    (q : ∀ h' tk', Fm w B L cl s₀ m cm news ⟨h', g, d, tk', os⟩ → Q none ⟨h', g, d, tk', os⟩) : wpAny (M w) A (pyNext (.ref I)) Q E ⟨h, g, d, tk, os⟩ :=
  S.done A h g d tk os o Q E hh (F.at 0 rfl) (hi ▸ ho) hs fun h' tk' k => q h' tk' (Fm.lose (s := ⟨h, g, d, tk, os⟩) F.withD k)
end
theorem steps_range {w : World} (I : Addr) (a c : Int) (n : Nat) : Steps w I n (fun i v => ∃ t, v = .int (a + i * c) t) (fun i o => o = ⟨.type "range_iterator", none, .fields #[rawInt (a + (i : Nat) * c), rawInt ((n : Int) - (i : Nat)), rawInt c], #[]⟩) (fun _ => True) where
  item := fun A i h g d tk os o Q E hi hI ho _ q => by
    subst ho
    refine wpAny_pyNext_range_item (s := ⟨h, g, d, tk, os⟩) hI (by ktn_no "om") fun h' hit' hs' => ?_
    refine q _ h' _ _ ⟨_, rfl⟩ ?_ hit' hs'
    have e1 : a + ((i + 1 : Nat) : Int) * c = a + (i : Int) * c + c := by push_cast; rw [Int.add_mul, Int.one_mul, Int.add_assoc]
    have e2 : (n : Int) - ((i + 1 : Nat) : Int) = (n : Int) - (i : Int) - 1 := by push_cast; (first | lia | omega)
    rw [e1, e2]
  done := fun A h g d tk os o Q E hh hI ho _ q => by
    subst ho
    refine wpAny_pyNext_range_end (s := ⟨h, g, d, tk, os⟩) hh hI (by ktn_no "om") fun h' he' => q h' tk fun b ob hb e => he' b ob hb e
theorem steps_str {w : World} (I : Addr) (x : PySem.Str) (t : Tok) : Steps w I x.cps.size (fun i v => ∃ c t, x.cps[i]? = some c ∧ v = .str ⟨#[c]⟩ t) (fun i o => o.cls = .type "str_ascii_iterator" ∧ o.data = .fields #[.str x t, .int i 0]) (fun _ => True) where
  item := fun A i h g d tk os o Q E hi hI ho _ q => by
    refine wpAny_pyNext_ascii_item (s := ⟨h, g, d, tk, os⟩) (c := x.cps[i]) ⟨o, hI, ho⟩ (by simp [hi]) fun h' hit' hs' => ?_
    (refine x1_2 (hit') ?_; try clear hit'; intro o' hI' ho')
    exact q _ h' _ o' ⟨_, _, by simp [hi], rfl⟩ ho' hI' hs'
  done := fun A h g d tk os o Q E hh hI ho _ q => wpAny_pyNext_ascii_end (s := ⟨h, g, d, tk, os⟩) hh ⟨o, hI, ho⟩ (by simp) fun h' he' => q h' tk fun b ob hb e => he' b ob hb e
theorem steps_seq {w : World} (I x : Addr) (vs : List Value) : Steps w I vs.length (fun i v => vs[i]? = some v) (fun i o => o = itO x i) (fun h => ∃ o n, h.get? x = some o ∧ o.data = .seq vs.toArray n) where
  item := fun A i h g d tk os o Q E hi hI ho ⟨ox, n, hx, hd⟩ q => by
    subst ho
    obtain ⟨v, hv⟩ : ∃ v, vs[i]? = some v := ⟨_, List.getElem?_eq_getElem hi⟩
    exact it_next hI hx hd hv fun h' hs' hI' => q v h' tk _ hv rfl hI' hs'
  done := fun A h g d tk os o Q E hh hI ho ⟨ox, n, hx, hd⟩ q => by
    subst ho
    exact it_end hh hI hx hd (Nat.le_refl _) fun h' k => q h' tk k
section
variable {w : World} {B : Heap} {L I : Addr} {m : PySem.Str → Option Value} {cl : List (PySem.Str × Addr)} {cm : PySem.Str → Option Value} {rest news : List (Addr × Obj)} {s₀ s : Shared}
theorem Fm.keepAll {h : Heap} {g : Array GenState} {d d₀ : Drawn} {tk tk₀ : Nat} {os : OsState} (F : Fm w B L cl s₀ m cm news ⟨h, g, d₀, tk₀, os⟩) {h' : Heap} (k : ∀ b o, h.get? b = some o → h'.get? b = some o) : Fm w B L cl s₀ m cm news ⟨h', g, d, tk, os⟩ where
  wf := F.wf
  ns := F.ns.keeps k
  keep := fun b o e => k b o (F.keep b o e)
  above := F.above
  nw := fun p hp => let ⟨a, r⟩ := F.nw p hp; ⟨k _ _ a, r⟩
  nd := F.nd
  ce := fun n c e => (F.ce n c e).keeps k
  cd := F.cd
  cp := F.cp
  tb := F.tb.keeps k
  rl := ⟨F.rl.os, F.rl.gens, F.rl.bare, fun t ht ps e => (let ⟨m, e'⟩ := F.rl.tg t ht ps e; ⟨m, k _ _ e'⟩), trivial⟩
theorem ext_keep {h h' : Heap} (he : Heap.ExtBut h.objs.size h h') : ∀ b o, h.get? b = some o → h'.get? b = some o := fun b o e => he b o (fun q => absurd (Heap.lt_size e) (by rw [q]; exact Nat.lt_irrefl _)) e
end
section
variable {w : World} {A : Around} {E : Value → Shared → Prop} {x dx y : Addr} {vs : List Value} {n : Nat} {h : Heap} {g : Array GenState} {d : Drawn} {tk : Nat} {os : OsState}
theorem acc_index {i : Int} {j : Nat} {ti : Tok} {v : Value} {Q : Value → Shared → Prop} (X : (KF w.params).In h) (hx : h.get? x = some (accO dx vs n)) (hi : i = j) (hj : j < 1000) (hv : vs[j]? = some v) (q : Q v ⟨h, g, d, tk, os⟩) :
    wpAny (M w) A (call (.builtin "list.__getitem__") [.ref x, .int i ti]) Q E ⟨h, g, d, tk, os⟩ := by
  refine call_bi (i := "list.__getitem__") (owner := "list") (n := "__getitem__") (b := Builtin.«list.__getitem__») (by first | exact .inr (by decide +kernel) | exact .inl (by decide +kernel)) (by decide +kernel) (by decide +kernel) (entryFor_of_tree (by kernel_rfl)) (by unfold argsOk; kernel_rfl) (looks_inst hx X (by ktn_no "k_ev")) ?_
  have hfit : Builtin.List.listFitsIndex i = true := by
    unfold Builtin.List.listFitsIndex
    simp only [Bool.and_eq_true, decide_eq_true_eq]
    (first | lia | omega)
  unfold Builtin.«list.__getitem__»
  ktn_no "no_call"
  ktn_no "st_one"
  ktn_no "st_one"
  ktn_no "st_one"
  ktn_no "st_one"
  refine wpAny_pure ?_
  dsimp only
  refine wpAny_pure ?_
  dsimp only
  refine wpAny_bind (wpAny_listSubscript_int hfit ?_)
  dsimp only
  subst hi
  show wpAny _ _ ((do return (← seqItemAt x j).map (j, ·)) >>= _) _ _ _
  unfold seqItemAt
  refine wpAny_bind (wpAny_bind (wpAny_bind (wpAny_loadPart hx ?_)))
  dsimp only
  have hv' : vs.toArray[j]? = some v := by simpa using hv
  rw [hv']
  refine wpAny_pure (wpAny_pure ?_)
  dsimp only [Option.map]
  exact wpAny_pure ⟨_, rfl, q⟩
theorem acc_item {value slice : Expr} {k : Value} {Q : Value → Shared → Prop} (X : (KF w.params).In h) (hx : h.get? x = some (accO dx vs n)) (q : wpAny (M w) A (call (.builtin "list.__getitem__") [.ref x, k]) Q E ⟨h, g, d, tk, os⟩)
    (hs : subscripted slice false (.ref x) k = operate [.ref x, k] (getItem (.ref x) k) := by with_unfolding_all rfl) :
    wpAny (M w) A (subscriptTail value slice (.ref x) k) Q E ⟨h, g, d, tk, os⟩ := by
  unfold subscriptTail
  unfold getitemInPython
  refine wpAny_bind (wpAny_bind (st_special hx X (by ktn_no "k_ev") ?_))
  refine wpAny_pure ?_
  rw [hs]
  refine wpAny_bind (st_operate (acc_getItem X hx (wpAny_mono q (fun v s' hv => ?_) fun _ _ z => z)))
  exact wpAny_bind (wpAny_letTemporaryGo (wpAny_pure hv))
theorem sub_tail {M : Model} {s : Shared} {value slice : Expr} {o i : Value} {T id : String} {Q : Value → Shared → Prop} (hT : s.TypeIs o T)
    (hl : typeLookup (.type T) "__getitem__" = pure (some (.builtin id))) (hgo : ∀ r s' (Q : Unit → Shared → Prop), Q () s' → wpAny M A (letTemporaryGo value o r) Q E s') (q : wpAny M A (getItem o i) Q E s)
    (hs : subscripted slice false o i = operate [o, i] (getItem o i) := by with_unfolding_all rfl) :
    wpAny M A (subscriptTail value slice o i) Q E s := by
  unfold subscriptTail
  refine wpAny_bind ?_
  rw [getitemInPython_of_ne hT.not_modules]
  refine wpAny_bind (wpAny_specialOf hT hl ?_)
  have fin : wpAny M A (subscripted slice false o i) (fun r s₃ => wpAny M A (letTemporaryGo value o r >>= fun _ => pure r) Q E s₃) E s := by
    rw [hs]
    exact wpAny_operating (wpAny_mono q (fun r s₃ h₃ => wpAny_bind (hgo _ _ _ (wpAny_pure h₃))) fun _ _ x => x)
  first
    | exact wpAny_pure (wpAny_bind fin)
    | exact wpAny_bind (wpAny_pure (wpAny_bind fin))
    | exact wpAny_bind fin
theorem tup_item {s : Shared} {value slice : Expr} {t : Addr} {l : List Value} {k : Int} {u : Tok} {j : Nat} {v : Value} {Q : Value → Shared → Prop} (ht : IsTup s.heap t l.toArray)
    (hlo : -(2 ^ 63) ≤ k) (hhi : k < 2 ^ 63) (hj : seqIndex? k l.length = some j) (hv : l[j]? = some v) (q : Q v s)
    (hs : subscripted slice false (.ref t) (.int k u) = operate [.ref t, .int k u] (getItem (.ref t) (.int k u)) := by with_unfolding_all rfl) :
    wpAny (M w) A (subscriptTail value slice (.ref t) (.int k u)) Q E s :=
  sub_tail ht.typeIs slot_tuple_getitem.lookup (fun _ _ _ h => wpAny_letTemporaryGo h) (getItem_tuple ht hlo hhi (by simpa using hj) (by simpa using hv) q) hs
theorem str_item {s : Shared} {value slice : Expr} {y : PySem.Str} {t : Tok} {k : Int} {u : Tok} {c : Nat} {Q : Value → Shared → Prop}
    (hr : (decide (k < -(2 ^ 63 : Int)) || decide (k ≥ 2 ^ 63)) = false) (hc : (seqIndex? k y.length).bind (y.cps[·]?) = some c) (q : ∀ t s', s'.heap = s.heap → s'.gens = s.gens → s'.drawn = s.drawn → s'.os = s.os → Q (.str ⟨#[c]⟩ t) s')
    (hs : subscripted slice false (.str y t) (.int k u) = operate [.str y t, .int k u] (getItem (.str y t) (.int k u)) := by with_unfolding_all rfl) :
    wpAny (M w) A (subscriptTail value slice (.str y t) (.int k u)) Q E s :=
  sub_tail (typeIs_str _ _ _) slot_str_getitem.lookup (fun _ _ _ h => wpAny_letTemporaryGo h) (getItem_str hr hc (q _ _ rfl rfl rfl rfl)) hs
theorem tupO_is {h : Heap} {q : Addr} {vs : List Value} (e : h.get? q = some (tupO vs)) : IsTup h q vs.toArray := ⟨_, e, rfl, 0, rfl⟩
end
section
variable {w : World} {B : Heap} {L : Addr} {m : PySem.Str → Option Value} {cl : List (PySem.Str × Addr)} {cm : PySem.Str → Option Value} {news : List (Addr × Obj)} {s₀ : Shared} {A : Around} {E : Value → Shared → Prop} {h : Heap} {g : Array GenState} {d d₀ : Drawn} {tk tk₀ : Nat} {os : OsState} {env : Env}
theorem assign_pair {x1 x2 : PySem.Str} {p1 p2 pos : Pos} {k : Nat} {q : Addr} {v1 v2 : Value} {Q : Unit → Shared → Prop} (F : Fm w B L cl s₀ m cm news ⟨h, g, d₀, tk₀, os⟩) (hh : A.handled = none) (ht : h.get? q = some (tupO [v1, v2]))
    (hk : env.scope.kind = .function) (hx1 : env.kindOf x1 = some .local) (hx2 : env.kindOf x2 = some .local) (hL : env.locals = L)
    (hq : ∀ h' tk', Fm w B L cl s₀ (upd (upd m x1 v1) x2 v2) cm news ⟨h', g, d, tk', os⟩ → Q () ⟨h', g, d, tk', os⟩) : wpAny (M w) A (assign (.Tuple [.Name x1 p1, .Name x2 p2] k pos) env (.ref q)) Q E ⟨h, g, d, tk, os⟩ := by
  refine assign_Tuple_tuple hh (tupO_is ht) rfl rfl fun h₁ he => ?_
  refine assignInOrder_cons (wpAny_assign_Name (st_L (F.keepAll (d := d) (tk := tk) (ext_keep he)) hk hx1 hL fun h₂ F₂ => ?_))
  refine assignInOrder_cons (wpAny_assign_Name (st_L F₂ hk hx2 hL fun h₃ F₃ => ?_))
  exact assignInOrder_nil (hq _ _ F₃)
end
noncomputable abbrev e0 : PySem.Str := Str.ofString ""
/-- a post that stands for another one -/
structure Opq (Q Qo : Flow → Shared → Prop) : Prop where
  to : ∀ f s, Q f s → Qo f s
theorem useQ {Q Qo : Flow → Shared → Prop} (O : Opq Q Qo) {f : Flow} {s : Shared} (h : Q f s) : Qo f s := O.to f s h
theorem wForO {w : World} {A : Around} {target : Expr} {iter : Expr} {body orelse : List Stmt} {pos : Pos} {env : Env} {Q : Flow → Shared → Prop} {s : Shared}
    (h : ∀ Qo, Opq Q Qo → wpAny (M w) A (eval iter env) (fun xv s₁ => wpAny (M w) A (pyIter xv) (fun it s₂ => LoopC w A target it body orelse env Qo s₂) NoE s₁) NoE s)
    (hs : ∀ x, foldedSetIterable iter env x = pure x) : wpAny (M w) A (exec (.For target iter body orelse pos) env) Q NoE s :=
  wFor (h Q ⟨fun _ _ x => x⟩) hs
local macro_rules | `(tactic| ktn_no "x1") => `(tactic| (with_reducible refine useQ (by assumption) ?_))
/-- a word that the split character ends -/
noncomputable def Word (c : Nat) (y : PySem.Str × PySem.Str) : Prop := y.1 = e0 ∧ (∃ l : Array Nat, y.2.cps = l.push c) ∧ y.2.length ≤ 5000
noncomputable def chunk (mx : Int) (st : List PySem.Str × List (PySem.Str × PySem.Str)) (v : PySem.Str) : List PySem.Str × List (PySem.Str × PySem.Str) :=
  if accLen 0 (st.2 ++ [(e0, v)]) > mx ∧ st.2.isEmpty = false then (st.1 ++ [accStr st.2], [(e0, v)]) else (st.1, st.2 ++ [(e0, v)])
theorem down_size (k : Nat) : Builtin.Range.rangeSize (k : Int) 0 (-1) = k := by
  unfold Builtin.Range.rangeSize
  rw [if_neg (by decide)]
  by_cases h : (k : Int) > 0
  · rw [if_pos h]; simp only [Int.neg_neg, Int.ediv_one]; (first | lia | omega)
  · rw [if_neg h]; (first | lia | omega)
theorem down_small (k : Nat) (hk : k ≤ 1000) : Builtin.Range.small (k : Int) 0 (-1) = true := by
  unfold Builtin.Range.small
  simp only [down_size]
  have f : ∀ z : Int, -2000 ≤ z → z ≤ 2000 → Builtin.Range.rangeFitsLong z = true := fun z h1 h2 => by
    unfold Builtin.Range.rangeFitsLong
    simp only [Bool.and_eq_true, decide_eq_true_eq]
    (first | lia | omega)
  simp only [f k (by ktn_no "om") (by ktn_no "om"), f 0 (by ktn_no "om") (by ktn_no "om"), f (-1) (by ktn_no "om") (by ktn_no "om"), f (0 + (-1 + 1)) (by ktn_no "om") (by ktn_no "om"), f (0 + (-1 - 1)) (by ktn_no "om") (by ktn_no "om")]
  simp
theorem Word.b1 {c : Nat} {y : PySem.Str × PySem.Str} (h : Word c y) : y.1.length ≤ 1000000 ∧ y.2.length ≤ 1000000 := ⟨by rw [h.1]; decide, Nat.le_trans h.2.2 (by decide)⟩
theorem Word.b2 {c : Nat} {y : PySem.Str × PySem.Str} (h : Word c y) : y.1.length ≤ 5000 ∧ y.2.length ≤ 5000 := ⟨by rw [h.1]; decide, h.2.2⟩
theorem accLen_b {c : Nat} : ∀ {its : List (PySem.Str × PySem.Str)}, (∀ y ∈ its, Word c y) → 0 ≤ accLen 0 its ∧ accLen 0 its ≤ 5000 * its.length
  | [], _ => by simp [accLen]
  | y :: r, h => by
    have := accLen_b (its := r) fun z hz => h z (.tail _ hz)
    have hy := h y (.head _)
    have h1 : y.1.length = 0 := by rw [hy.1]; decide
    have h2 := hy.2.2
    simp only [accLen, List.map_cons, List.sum_cons, List.length_cons] at this ⊢
    rw [h1]
    push_cast
    (first | lia | omega)
section
variable {w : World} {B : Heap} {L : Addr} {m : PySem.Str → Option Value} {cl : List (PySem.Str × Addr)} {cm : PySem.Str → Option Value} {own rest news : List (Addr × Obj)} {s₀ : Shared} {A : Around} {E : Value → Shared → Prop} {x : Addr} {its : List (PySem.Str × PySem.Str)} {init : Int} {h : Heap} {g g₀ : Array GenState} {d d₀ : Drawn} {tk tk₀ : Nat} {os os₀ : OsState}
theorem accP_method {Q : Value × List Value → Shared → Prop} {pl : Sem Bool} {name : PySem.Str} {f tf : Value} (F : Fm w B L cl s₀ m cm (own ++ rest) ⟨h, g₀, d₀, tk₀, os₀⟩) (P : AccP x its init own)
    (hf : findIn (KF w.params) (.ref a_Acc) name = some (some f)) (ht : typeIn (KF w.params) f = some tf) (ht2 : (tf != .type "function" && tf != .type "method_descriptor" && tf != .type "wrapper_descriptor") = false) (hl : decide (name = "_initial_size") = false)
    (q : Q (f, [.ref x]) ⟨h, g, d, tk, os⟩) : wpAny (M w) A (getMethod (.ref x) name pl) Q E ⟨h, g, d, tk, os⟩ := by
  obtain ⟨dx, nn, k, vs, la, esa, ta, rfl, hEa, hT⟩ := P
  exact acc_method F.K (F.at 0 rfl) (F.at 1 rfl) hEa hf ht ht2 (by simp only [accM, upd]; rw [if_neg (of_decide_eq_false hl)]) q
theorem accP_get {Q : Value → Shared → Prop} {ex : Bool} (F : Fm w B L cl s₀ m cm (own ++ rest) ⟨h, g₀, d₀, tk₀, os₀⟩) (P : AccP x its init own)
    (q : ∀ t, Q (.int init t) ⟨h, g, d, tk + 1, os⟩) : wpAny (M w) A (getAttr (.ref x) "_initial_size" ex) Q E ⟨h, g, d, tk, os⟩ := by
  obtain ⟨dx, nn, k, vs, la, esa, ta, rfl, hEa, hT⟩ := P
  exact acc_get F.K (F.at 0 rfl) (F.at 1 rfl) hEa (by simp [accM, upd]) rfl (q ta)
end
section
variable {w : World} {B : Heap} {L : Addr} {m : PySem.Str → Option Value} {cl : List (PySem.Str × Addr)} {cm : PySem.Str → Option Value} {own rest news : List (Addr × Obj)} {s₀ s : Shared} {A : Around} {E : Value → Shared → Prop} {Q : Value → Shared → Prop} {n : Nat} {x : Addr} {its : List (PySem.Str × PySem.Str)} {lines : List PySem.Str} {mx : Int} {c : Nat}
theorem append_chunk_spec {v : PySem.Str} {t1 t2 : Tok} (R : Room (n + 40) A) (F : Fm w B L cl s₀ m cm (own ++ rest) s) (P : VfP x mx ⟨#[c]⟩ lines its own) (hc : c < 128) (hsp : Txt.isspace ⟨#[c]⟩ = false) (hw : ∀ y ∈ its, Word c y) (hv : Word c (e0, v)) (hz : its.length ≤ 100) (hl : lines.length ≤ 800)
    (h : ∀ own' s', VfP x mx ⟨#[c]⟩ (chunk mx (lines, its) v).1 (chunk mx (lines, its) v).2 own' → Fm w B L cl s₀ m cm (own' ++ rest) s' → Q .none s') :
   wpAny (M w) A (call (.ref a_VF_append_chunk) [.ref x, .str e0 t1, .str v t2] []) Q E s := by
  refine call_fn (binds := [("self", .ref x), ("fws", .str e0 t1), ("string", .str v t2)]) (fd := fd_VF_append_chunk) (cmF := fun _ => none) R F (lk_VF_append_chunk _) (cd_VF_append_chunk _) rfl (BindsTo.of_eq rfl) (by decide) (by kernel_rfl) (fun _ _ e => (by cases e)) (fun _ _ _ e => (by cases e)) ?_ rfl rfl rfl
  obtain ⟨dv, kd, es, u1, u2, u3, u4, ll, ac, l, nl, oa, rfl, hE, hl1, hP⟩ := P
  intro Qo hQo L' s₁ hL F₁ R₁
  obtain ⟨h₁, g₁, d₁, k₁, o₁⟩ := s₁
  ktn_no "ast"
  ktn_no "x"
  refine vf_get F₁.K (F₁.at 0 rfl) (F₁.at 1 rfl) hE (by ktn_no "k_val") (by kernel_rfl) (by ktn_no "k_ev") ?_
  ktn_no "x"
  have F₂ := F₁.perm (news' := oa ++ ((x, vfO dv) :: (dv, dictOf es kd) :: (ll, lsO (strValues l) nl) :: rest)) (by ktn_no "perm_tac")
  refine accP_method F₂ hP (by ktn_no "k_ev") (by ktn_no "k_ev") (by decide +kernel) (by decide +kernel) ?_
  ktn_no "x"
  refine push_spec (n := n + 30) (R₁.less (by ktn_no "le")) (F₂.toks _) hP (by ktn_no "om") fun oa₃ s' P₃ F₃ => ?_
  obtain ⟨h₃, g₃, d₃, k₃, o₃⟩ := s'
  clear F₁ F₂ hP
  have hw2 : ∀ y ∈ its ++ [(e0, v)], Word c y := fun y hy => by
    rcases List.mem_append.mp hy with hy | hy
    · exact hw y hy
    · rw [List.mem_singleton.mp hy]; exact hv
  have F₄ := F₃.perm (news' := (x, vfO dv) :: (dv, dictOf es kd) :: (ll, lsO (strValues l) nl) :: (oa₃ ++ rest)) (by ktn_no "perm_tac")
  have hb := accLen_b hw2
  simp only [List.length_append, List.length_singleton] at hb
  ktn_no "x"
  refine vf_get F₄.K (F₄.at 0 rfl) (F₄.at 1 rfl) hE (by ktn_no "k_val") (by kernel_rfl) (by ktn_no "k_ev") ?_
  ktn_no "x"
  refine len_call (n := n + 10) (R₁.less (by ktn_no "le")) (F₃.toks _) P₃ (fun y hy => (hw2 y hy).b1) hb.1 (by ktn_no "om") fun t₅ s' F₅ => ?_
  obtain ⟨h₅, g₅, d₅, k₅, o₅⟩ := s'
  clear F₃ F₄
  have F₆ := F₅.perm (news' := (x, vfO dv) :: (dv, dictOf es kd) :: (ll, lsO (strValues l) nl) :: (oa₃ ++ rest)) (by ktn_no "perm_tac")
  ktn_no "x"
  refine vf_get F₆.K (F₆.at 0 rfl) (F₆.at 1 rfl) hE (by ktn_no "k_val") (by kernel_rfl) (by ktn_no "k_ev") ?_
  ktn_no "x"
  by_cases hgt : mx < accLen 0 (its ++ [(e0, v)])
  case neg =>
    rw [if_neg (by simpa using hgt)]
    ktn_no "x"
    have e : chunk mx (lines, its) v = (lines, its ++ [(e0, v)]) := if_neg (fun z => hgt z.1)
    refine hQo _ _ <| Back.of (F₆.toks _) fun G => ?_
    refine h ((x, vfO dv) :: (dv, dictOf es kd) :: (ll, lsO (strValues l) nl) :: oa₃) _ ⟨_, _, _, _, _, _, _, _, _, _, _, _, rfl, hE, ?_, ?_⟩ G
    · rw [e]; exact hl1
    · rw [e]; exact P₃
  rw [if_pos (by simpa using hgt)]
  refine wpAny_execs_cons (wForO (fun Qf₁ hQf₁ => ?_) (fun x => rfl))
  ktn_no "x"
  refine vf_get F₆.K (F₆.at 0 rfl) (F₆.at 1 rfl) hE (by ktn_no "k_val") (by kernel_rfl) (by ktn_no "k_ev") ?_
  refine wpAny_pyIter_strU ?_
  have hty : strIterType ⟨#[c]⟩ = "str_ascii_iterator" := by simp [strIterType, hc]
  rw [hty]
  have F₇ := F₆.push1 (d := d₅) (tk := k₅ + 1) ⟨.type "str_ascii_iterator", none, .fields #[.str ⟨#[c]⟩ u4, .int (0 : Nat) 0], #[]⟩
  have S := steps_str (w := w) h₅.objs.size ⟨#[c]⟩ u4
  refine loop_step ?_
  refine Fm.nextI F₇ S (i := 0) Nat.zero_lt_one ⟨rfl, rfl⟩ trivial fun v₈ h₈ k₈ o₈' hv₈ hob₈ F₈ => ?_
  (refine x2_2 (hv₈) ?_; try clear hv₈; intro c' tc hcc eqX3; subst eqX3)
  have hcc : c' = c := by simpa using hcc.symm
  subst hcc
  dsimp only
  refine wpAny_pure (wpAny_assign_Name ?_)
  refine st_L F₈ (by kernel_rfl) (by kernel_rfl!) (by kernel_rfl) fun h₉ F₉ => ?_
  clear F₅ F₆ F₇ F₈
  refine wpAny_execs_cons (wForO (fun Qf₂ hQf₂ => ?_) (fun x => rfl))
  have G₁ := F₉.perm (news' := (x, vfO dv) :: (dv, dictOf es kd) :: (ll, lsO (strValues l) nl) :: (oa₃ ++ ((h₅.objs.size, o₈') :: rest))) (by ktn_no "perm_tac")
  have G₂ := F₉.perm (news' := oa₃ ++ ((x, vfO dv) :: (dv, dictOf es kd) :: (ll, lsO (strValues l) nl) :: (h₅.objs.size, o₈') :: rest)) (by ktn_no "perm_tac")
  ktn_no "x"
  refine vf_get G₁.K (G₁.at 0 rfl) (G₁.at 1 rfl) hE (by ktn_no "k_val") (by kernel_rfl) (by ktn_no "k_ev") ?_
  ktn_no "x"
  refine accP_method G₂ P₃ (by ktn_no "k_ev") (by ktn_no "k_ev") (by decide +kernel) (by decide +kernel) ?_
  ktn_no "x"
  refine part_count_spec (n := n + 30) (R₁.less (by ktn_no "le")) (G₂.toks _) P₃ fun t₁₀ s' F₁₀ => ?_
  obtain ⟨h₁₀, g₁₀, d₁₀, k₁₀, o₁₀⟩ := s'
  clear G₁ G₂
  ktn_no "x"
  have ek : (((its ++ [(e0, v)]).length : Nat) : Int) - 1 = (its.length : Int) := by simp
  rw [ek]
  refine call_range_3 (by decide) ?_ (.inl (PyProof.noPylong_small (by ktn_no "om")))
  have F₁₁ := F₁₀.push1 (d := d₁₀) (tk := k₁₀ + 1 + 1 + 1 + 1 + 1) ⟨.type "range", none, .fields #[.int (its.length : Int) (k₁₀ + 1), .int 0 (k₁₀ + 1 + 1), .int (-1) (k₁₀ + 1 + 1 + 1 + 1)], #[]⟩
  refine wpAny_pyIter_range (F₁₁.at 0 rfl) (down_small _ (by ktn_no "om")) ?_
  rw [down_size]
  have F₁₂ := F₁₁.push1 (d := d₁₀) (tk := k₁₀ + 1 + 1 + 1 + 1 + 1) ⟨.type "range_iterator", none, .fields #[rawInt ((its.length : Int) + (0 : Nat) * (-1)), rawInt ((its.length : Int) - (0 : Nat)), rawInt (-1)], #[]⟩
  rw [show (rawInt (its.length : Int)) = rawInt ((its.length : Int) + (0 : Nat) * (-1)) by simp]
  have SI := steps_range (w := w) (h₁₀.push ⟨.type "range", none, .fields #[.int (its.length : Int) (k₁₀ + 1), .int 0 (k₁₀ + 1 + 1), .int (-1) (k₁₀ + 1 + 1 + 1 + 1)], #[]⟩).objs.size (its.length : Int) (-1) its.length
  dsimp only
  refine loop_step ?_
  rcases Nat.eq_zero_or_pos its.length with hlen | hlen
  case inl =>
    have hnil : its = [] := List.length_eq_zero_iff.mp hlen
    subst hnil
    refine Fm.endI F₁₂ SI R₁.handled (i := 0) rfl rfl trivial fun h₁₃ k₁₃ F₁₃ => ?_
    clear F₁₀ F₁₁ F₁₂
    ktn_no "x"
    refine loop_step ?_
    have F₁₄ := F₁₃.perm (news' := (h₅.objs.size, o₈') :: (h₁₀.objs.size, ⟨.type "range", none, .fields #[.int (([] : List (PySem.Str × PySem.Str)).length : Int) (k₁₀ + 1), .int 0 (k₁₀ + 1 + 1), .int (-1) (k₁₀ + 1 + 1 + 1 + 1)], #[]⟩) :: (x, vfO dv) :: (dv, dictOf es kd) :: (ll, lsO (strValues l) nl) :: (oa₃ ++ rest)) (by ktn_no "perm_tac")
    refine Fm.endI F₁₄ S R₁.handled (i := 1) rfl hob₈ trivial fun h₁₅ k₁₅ F₁₅ => ?_
    have F₁₆ := F₁₅.drop 1
    dsimp only [List.drop] at F₁₆
    clear F₁₃ F₁₄ F₁₅
    ktn_no "x"
    refine Assign_Tuple ?_ rfl rfl
    ktn_no "x"
    refine vf_get F₁₆.K (F₁₆.at 0 rfl) (F₁₆.at 1 rfl) hE (by ktn_no "k_val") (by kernel_rfl) (by ktn_no "k_ev") ?_
    ktn_no "x"
    have G₂ := F₁₆.perm (news' := oa₃ ++ ((x, vfO dv) :: (dv, dictOf es kd) :: (ll, lsO (strValues l) nl) :: rest)) (by ktn_no "perm_tac")
    refine accP_method G₂ P₃ (by ktn_no "k_ev") (by ktn_no "k_ev") (by decide +kernel) (by decide +kernel) ?_
    ktn_no "x"
    refine pop_spec (n := n + 20) (R₁.less (by ktn_no "le")) (G₂.toks _) P₃ (by simp) fun oa₄ q tq1 tq2 s' P₄ F₁₇ => ?_
    obtain ⟨h₁₇, g₁₇, d₁₇, k₁₇, o₁₇⟩ := s'
    clear F₁₆ G₂
    refine assign_pair F₁₇ R₁.handled (F₁₇.at 0 rfl) rfl (by kernel_rfl) (by kernel_rfl) (by kernel_rfl) fun h₁₈ k₁₈ F₁₈ => ?_
    clear F₁₇
    have F₁₉ := (F₁₈.drop 1).perm (news' := (x, vfO dv) :: (dv, dictOf es kd) :: (ll, lsO (strValues l) nl) :: (oa₄ ++ rest)) (by simp only [List.cons_append, List.drop]; ktn_no "perm_tac")
    ktn_no "x"
    refine vf_get F₁₉.K (F₁₉.at 0 rfl) (F₁₉.at 1 rfl) hE (by ktn_no "k_val") (by kernel_rfl) (by ktn_no "k_ev") ?_
    ktn_no "x"
    have G₃ := F₁₉.perm (news' := oa₄ ++ ((x, vfO dv) :: (dv, dictOf es kd) :: (ll, lsO (strValues l) nl) :: rest)) (by ktn_no "perm_tac")
    refine accP_get G₃ P₄ fun ti => ?_
    ktn_no "x"
    rw [if_neg (by decide)]
    ktn_no "x"
    refine vf_get F₁₉.K (F₁₉.at 0 rfl) (F₁₉.at 1 rfl) hE (by ktn_no "k_val") (by kernel_rfl) (by ktn_no "k_ev") ?_
    ktn_no "x"
    refine accP_method G₃ P₄ (by ktn_no "k_ev") (by ktn_no "k_ev") (by decide +kernel) (by decide +kernel) ?_
    ktn_no "x"
    refine push_spec (n := n + 20) (R₁.less (by ktn_no "le")) (G₃.toks _) P₄ (by simp) fun oa₅ s' P₅ F₂₀ => ?_
    obtain ⟨h₂₀, g₂₀, d₂₀, k₂₀, o₂₀⟩ := s'
    ktn_no "x"
    have e : chunk mx (lines, []) v = (lines, [(e0, v)]) := if_neg (fun z => by cases z.2)
    refine hQo _ _ <| Back.of (Fm.toks (F₂₀.perm (news' := ((x, vfO dv) :: (dv, dictOf es kd) :: (ll, lsO (strValues l) nl) :: oa₅) ++ rest) (by ktn_no "perm_tac")) _) fun G => ?_
    refine h ((x, vfO dv) :: (dv, dictOf es kd) :: (ll, lsO (strValues l) nl) :: oa₅) _ ⟨_, _, _, _, _, _, _, _, _, _, _, _, rfl, hE, ?_, ?_⟩ G
    · rw [e]; exact hl1
    · rw [e]; exact P₅
  case inr =>
    refine Fm.nextI F₁₂ SI (i := 0) hlen rfl trivial fun v₁₃ h₁₃ k₁₃ o₁₃' hv₁₃ hob₁₃ F₁₃ => ?_
    obtain ⟨ti, rfl⟩ := hv₁₃
    rw [show (its.length : Int) + ((0 : Nat) : Int) * -1 = (its.length : Int) by simp]
    clear F₁₀ F₁₁ F₁₂
    dsimp only
    refine wpAny_pure (wpAny_assign_Name ?_)
    refine st_L F₁₃ (by kernel_rfl) (by kernel_rfl!) (by kernel_rfl) fun h₁₄ F₁₄ => ?_
    ktn_no "x"
    refine GM.isspace ?_
    ktn_no "x"
    refine SC.isspace ?_
    ktn_no "x"
    rw [hsp, if_neg (by decide)]
    ktn_no "x"
    have G₁ := F₁₄.perm (news' := (x, vfO dv) :: (dv, dictOf es kd) :: (ll, lsO (strValues l) nl) :: (oa₃ ++ ((h₁₀.objs.size + 1, o₁₃') :: (h₁₀.objs.size, ⟨.type "range", none, .fields #[.int (its.length : Int) (k₁₀ + 1), .int 0 (k₁₀ + 1 + 1), .int (-1) (k₁₀ + 1 + 1 + 1 + 1)], #[]⟩) :: (h₅.objs.size, o₈') :: rest))) (by rw [Heap.size_push]; ktn_no "perm_tac")
    obtain ⟨dx, nn, k, vs, la, esa, ta, rfl, hEa, hT⟩ := P₃
    refine Subscript_ (Subscript_ ?_)
    ktn_no "x"
    refine vf_get G₁.K (G₁.at 0 rfl) (G₁.at 1 rfl) hE (by ktn_no "k_val") (by kernel_rfl) (by ktn_no "k_ev") ?_
    ktn_no "x"
    obtain ⟨y, hy⟩ : ∃ y, (its ++ [(e0, v)])[its.length - 1]? = some y := ⟨_, List.getElem?_eq_getElem (by simp; (first | lia | omega))⟩
    have hym := List.mem_of_getElem? hy
    obtain ⟨yf, yp⟩ := y
    (refine x3_2 (hT.get hy) ?_; intro q tq1 tq2 hvq hmq)
    refine acc_item G₁.K (G₁.at 3 rfl) (acc_index G₁.K (G₁.at 3 rfl) (j := its.length - 1) (by ktn_no "om") (by ktn_no "om") hvq ?_)
    ktn_no "x"
    have hq := (G₁.nw _ (show (q, _) ∈ _ from .tail _ (.tail _ (.tail _ (.tail _ (.tail _ (List.mem_append_left _ hmq))))))).1
    refine tup_item (tupO_is hq) (by decide) (by decide) (j := 1) rfl rfl ?_
    refine st_L F₁₄ (by kernel_rfl) (by kernel_rfl!) (by kernel_rfl) fun h₁₅ F₁₅ => ?_
    ktn_no "x"
    obtain ⟨hy1, ⟨ly, hy2⟩, hy3⟩ := hw2 _ hym
    dsimp only at hy2 hy3
    have hyl : yp.length = ly.size + 1 := by show yp.cps.size = _; rw [hy2]; simp
    refine PySem.P.truthy_str (by ktn_no "om") ?_
    rw [if_pos (by rw [hyl]; simp; (first | lia | omega))]
    ktn_no "x"
    refine Subscript_ ?_
    ktn_no "x"
    refine str_item (c := c') rfl ?_ fun ts s' e1 e2 e3 e4 => ?_
    · rw [hyl, show seqIndex? (-1) (ly.size + 1) = some ly.size by unfold seqIndex?; simp; (first | lia | omega)]
      simp [hy2]
    obtain ⟨h₁₆, g₁₆, d₁₆, k₁₆, o₁₆⟩ := s'
    dsimp only at e1 e2 e3 e4
    subst e1 e2 e3 e4
    ktn_no "x"
    refine eq_str ?_
    ktn_no "x"
    rw [if_pos (by simp)]
    ktn_no "x"
    rw [if_pos rfl]
    ktn_no "x"
    have P₄ : AccP ac (its ++ [(e0, v)]) 0 ((ac, accO dx vs nn) :: (dx, dictOf esa k) :: la) := ⟨_, _, _, _, _, _, _, rfl, hEa, hT⟩
    have F₁₆ := (F₁₅.perm (news' := (h₁₀.objs.size + 1, o₁₃') :: (h₁₀.objs.size, ⟨.type "range", none, .fields #[.int (its.length : Int) (k₁₀ + 1), .int 0 (k₁₀ + 1 + 1), .int (-1) (k₁₀ + 1 + 1 + 1 + 1)], #[]⟩) :: (h₅.objs.size, o₈') :: (x, vfO dv) :: (dv, dictOf es kd) :: (ll, lsO (strValues l) nl) :: (((ac, accO dx vs nn) :: (dx, dictOf esa k) :: la) ++ rest)) (by rw [Heap.size_push]; ktn_no "perm_tac")).drop 3
    dsimp only [List.drop] at F₁₆
    clear F₁₄ F₁₅ G₁
    refine vf_get F₁₆.K (F₁₆.at 0 rfl) (F₁₆.at 1 rfl) hE (by ktn_no "k_val") (by kernel_rfl) (by ktn_no "k_ev") ?_
    ktn_no "x"
    have G₂ := F₁₆.perm (news' := ((ac, accO dx vs nn) :: (dx, dictOf esa k) :: la) ++ ((x, vfO dv) :: (dv, dictOf es kd) :: (ll, lsO (strValues l) nl) :: rest)) (by ktn_no "perm_tac")
    refine accP_method G₂ P₄ (by ktn_no "k_ev") (by ktn_no "k_ev") (by decide +kernel) (by decide +kernel) ?_
    ktn_no "x"
    refine pop_from_spec (n := n + 20) (i := its.length) (R₁.less (by ktn_no "le")) (G₂.toks _) P₄ (by simp; (first | lia | omega)) (by simp) fun own1 own2 yl s' P₅ P₆ F₁₇ => ?_
    obtain ⟨h₁₇, g₁₇, d₁₇, k₁₇, o₁₇⟩ := s'
    clear F₁₆ G₂
    rw [show (its ++ [(e0, v)]).take its.length = its by simp] at P₅
    rw [show (its ++ [(e0, v)]).drop its.length = [(e0, v)] by simp] at P₆
    refine st_L F₁₇ (by kernel_rfl) (by kernel_rfl!) (by kernel_rfl) fun h₁₈ F₁₈ => ?_
    clear F₁₇
    have G₁ := F₁₈.perm (news' := (x, vfO dv) :: (dv, dictOf es kd) :: (ll, lsO (strValues l) nl) :: (own1 ++ (own2 ++ rest))) (by ktn_no "perm_tac")
    ktn_no "x"
    refine vf_get G₁.K (G₁.at 0 rfl) (G₁.at 1 rfl) hE (by ktn_no "k_val") (by kernel_rfl) (by ktn_no "k_ev") ?_
    ktn_no "x"
    refine Calls.getMethod_list_append (G₁.at 2 rfl) rfl rfl ?_
    ktn_no "x"
    refine vf_get G₁.K (G₁.at 0 rfl) (G₁.at 1 rfl) hE (by ktn_no "k_val") (by kernel_rfl) (by ktn_no "k_ev") ?_
    ktn_no "x"
    have G₂ := F₁₈.perm (news' := own1 ++ (own2 ++ ((x, vfO dv) :: (dv, dictOf es kd) :: (ll, lsO (strValues l) nl) :: rest))) (by ktn_no "perm_tac")
    refine str_call (n := n + 10) (R₁.less (by ktn_no "le")) (G₂.toks _) P₅ (by ktn_no "om") (fun y hy => (hw y hy).b2) fun t₁₉ s' F₁₉ => ?_
    obtain ⟨h₁₉, g₁₉, d₁₉, k₁₉, o₁₉⟩ := s'
    clear F₁₈ G₁ G₂
    have G₁ := F₁₉.perm (news' := (x, vfO dv) :: (dv, dictOf es kd) :: (ll, lsO (strValues l) nl) :: (own1 ++ (own2 ++ rest))) (by ktn_no "perm_tac")
    ktn_no "x"
    have hll : l.length = lines.length := by rw [← hl1]; simp
    refine append_at (G₁.at 2 rfl) (fun h₂₀ hs₂₀ hx₂₀ => ?_) (by have : (1000 : Nat) ≤ sizeLine := by decide
                                                                 simp [strValues]; (first | lia | omega))
    have F₂₀ := G₁.set1 (i := 2) (d := d₁₉) (tk := k₁₉) rfl hs₂₀ hx₂₀
    dsimp only [List.set] at F₂₀
    clear F₁₉ G₁
    ktn_no "x"
    refine vf_get F₂₀.K (F₂₀.at 0 rfl) (F₂₀.at 1 rfl) hE (by ktn_no "k_val") (by kernel_rfl) (by ktn_no "k_ev") ?_
    ktn_no "x"
    have G₂ := F₂₀.perm (news' := own1 ++ (own2 ++ ((x, vfO dv) :: (dv, dictOf es kd) :: (ll, ⟨.type "list", none, .seq ((strValues l).toArray.push (.str (accStr its) t₁₉)) (nl + 1), #[]⟩) :: rest))) (by ktn_no "perm_tac")
    refine accP_method G₂ P₅ (by ktn_no "k_ev") (by ktn_no "k_ev") (by decide +kernel) (by decide +kernel) ?_
    ktn_no "x"
    refine reset_list (n := n + 20) (R₁.less (by ktn_no "le")) (G₂.toks _) P₅ P₆ (by ktn_no "om") (by simp) fun own3 s' P₇ F₂₁ => ?_
    obtain ⟨h₂₁, g₂₁, d₂₁, k₂₁, o₂₁⟩ := s'
    ktn_no "x"
    have e : chunk mx (lines, its) v = (lines ++ [accStr its], [(e0, v)]) := if_pos ⟨hgt, by cases its with | nil => simp at hlen | cons => rfl⟩
    have e5 : (strValues l).toArray.push (.str (accStr its) t₁₉) = (strValues (l ++ [(accStr its, t₁₉)])).toArray := by simp [strValues]
    rw [e5] at F₂₁
    refine hQo _ _ <| Back.of (F₂₁.perm (news' := ((x, vfO dv) :: (dv, dictOf es kd) :: (ll, ⟨.type "list", none, .seq (strValues (l ++ [(accStr its, t₁₉)])).toArray (nl + 1), #[]⟩) :: own3) ++ rest) (by ktn_no "perm_tac")) fun G => ?_
    refine h ((x, vfO dv) :: (dv, dictOf es kd) :: (ll, lsO (strValues (l ++ [(accStr its, t₁₉)])) (nl + 1)) :: own3) _ ⟨_, _, _, _, _, _, _, _, _, _, _, _, rfl, hE, ?_, ?_⟩ G
    · rw [e]; simp [hl1]
    · rw [e]; exact P₇
end
section
variable {w : World} {B : Heap} {L : Addr} {m : PySem.Str → Option Value} {cl : List (PySem.Str × Addr)} {cm : PySem.Str → Option Value} {own rest news : List (Addr × Obj)} {s₀ : Shared} {A : Around} {E : Value → Shared → Prop} {h : Heap} {g : Array GenState} {d d₀ : Drawn} {tk tk₀ : Nat} {os : OsState}
theorem star_tup {q : Addr} {vs : List Value} {Q : List Value → Shared → Prop} (F : Fm w B L cl s₀ m cm news ⟨h, g, d₀, tk₀, os⟩) (ht : h.get? q = some (tupO vs)) (hz : vs.length ≤ 1000)
    (hq : ∀ h', Fm w B L cl s₀ m cm news ⟨h', g, d, tk, os⟩ → Q vs ⟨h', g, d, tk, os⟩) : StarOf (M w) A E (.ref q) Q ⟨h, g, d, tk, os⟩ := by
  have hT : Shared.TypeIs ⟨h, g, d, tk, os⟩ (.ref q) "tuple" := ⟨_, ht, rfl⟩
  unfold StarOf notIterableAtAll
  refine wpAny_bind (wpAny_specialOf hT PySem.F.slot_tuple_iter.lookup (wpAny_pure ⟨rfl, ?_⟩))
  refine wpAny_collect_seq q (.inr rfl) ht rfl rfl (fun h' hk => ?_) (Nat.le_trans (by simpa using hz) (show (1000 : Nat) ≤ sizeLine by decide))
  simpa using hq h' (F.keepAll hk)
theorem ne_tup2 {a b : Addr} {x1 x2 y1 y2 : PySem.Str} {t1 t2 u1 u2 : Tok} {Q : Value → Shared → Prop} (hA : A.units < cLine) (ha : h.get? a = some (tupO [.str x1 t1, .str x2 t2])) (hb : h.get? b = some (tupO [.str y1 u1, .str y2 u2]))
    (q : Q (.bool (!((x1 == y1) && (x2 == y2)))) ⟨h, g, d, tk, os⟩) : wpAny (M w) A (compareOp .NotEq (.ref a) (.ref b)) Q E ⟨h, g, d, tk, os⟩ := by
  refine SeqAt.RcNeAt.tuples (items := #[.str x1 t1, .str x2 t2]) (items2 := #[.str y1 u1, .str y2 u2]) (e := fun j => if j = 0 then x1 == y1 else x2 == y2) ⟨_, ha, rfl, 0, rfl⟩ ⟨_, hb, rfl, 0, rfl⟩ hA (fun j h1 h2 => ?_) pw w _ _ ?_
  · simp at h1
    rcases j with _ | _ | j
    · exact (eqGives_str _ _ _ _).at _ _
    · exact (eqGives_str _ _ _ _).at _ _
    · (first | lia | omega)
  · have e : (!((List.range (min (#[Value.str x1 t1, .str x2 t2] : Array Value).size (#[Value.str y1 u1, .str y2 u2] : Array Value).size)).all (fun j => if j = 0 then x1 == y1 else x2 == y2) && (#[Value.str x1 t1, .str x2 t2] : Array Value).size == (#[Value.str y1 u1, .str y2 u2] : Array Value).size)) = (!((x1 == y1) && (x2 == y2))) := by
      simp [List.range_succ]
    rw [e]
    exact q
end
section
variable {w : World} {B : Heap} {L : Addr} {m : PySem.Str → Option Value} {cl : List (PySem.Str × Addr)} {cm : PySem.Str → Option Value} {news : List (Addr × Obj)} {s₀ s : Shared} {A : Around} {E : Value → Shared → Prop} {Q : Value → Shared → Prop}
theorem call_fnC {n : Nat} {f : Addr} {oc : Value} {od : Option Addr} {osl : Array (Option Value)} {fd : FuncData} {body : List Stmt} {pos : List Value} {kw : List (PySem.Str × Value)} {binds : List (PySem.Str × Value)} {cmF : PySem.Str → Option Value}
    (R : Room (n + 1) A) (F : Fm w B L cl s₀ m cm news s)
    (ho : (KF w.params).lookup f = some ⟨oc, od, .func fd, osl⟩) (hcd : codeIn (KF w.params) fd.code fd.qualname = true) (hbody : fd.body = .stmts body) (hbind : BindsTo s fd ⟨pos, kw⟩ binds)
    (hcell : (fd.scope.names.all fun x => decide (x.2 ≠ .cell)) = true) (hloc : (binds.all fun x => decide (fd.scope.names.lookup x.1 = some .local)) = true)
    (hcl : ∀ n c, fd.closure.lookup n = some c → c < szTop ∧ ¬ Tab c ∧ ∃ o, (KF w.params).lookup c = some o ∧ o.data = .cell (cmF n)) (hcp : ∀ n n' c, fd.closure.lookup n = some c → fd.closure.lookup n' = some c → n = n')
    (h : ∀ Qo : Flow → Shared → Prop, (∀ fl s', Back w B L m cl cm news s₀ s Q (retV fl) s' → Qo fl s') → ∀ L' s₁, L' = s.heap.objs.size → Fm w (under s news) L' fd.closure s (bnd binds) cmF news s₁ → Room n (A.deeper (callEnv fd L' f)) →
      wpAny (M w) (A.deeper (callEnv fd L' f)) (execs body (callEnv fd L' f)) Qo (fun _ _ => False) s₁)
    (hco : fd.scope.isCoroutine = false) (hgen : fd.scope.isGenerator = false) (hk : fd.scope.kind = .function) : codeAny (M w) A (.call (.ref f) ⟨pos, kw⟩) (fun r s' => match r with | .ok (.ret v) => Q v s' | .ok _ => False | .error e => E e s') s := by
  have X := F.K
  refine (codeAny_call_def (fd := fd) (body := body) (binds := binds) R.lt (X _ _ ho) rfl (F.wf.nl.keeps F.keep) (codeRec_of X hcd) hbody hbind
    (fun x hx => of_decide_eq_true (List.all_eq_true.mp hcell x hx)) (locs hloc) (fun h₁ hns hk₁ => ?_) hco hgen hk)
  have hz : s.heap.objs.size < h₁.objs.size := hns.lt
  refine wpAny_mono (h _ (fun _ _ x => x) s.heap.objs.size _ rfl (F.enter rfl hns hk₁ (Nat.le_of_lt hz) (fun n c e => ?_) (fun n c e => ?_) hcp) R.deeper) (fun fl s' hb => ?_) (fun _ _ x => x.elim)
  · obtain ⟨_, _, o, ho, hd⟩ := hcl n c e
    exact ⟨o, hk₁ _ _ (X _ _ ho), hd⟩
  · obtain ⟨hs, hT, o, ho, hd⟩ := hcl n c e
    refine ⟨Nat.ne_of_lt (Heap.lt_size (X _ _ ho)), fun q => ?_, hT⟩
    (refine x1_2 (List.mem_map.mp q) ?_; intro p hp e')
    exact absurd hs (by rw [← e']; exact Nat.not_lt.mpr (F.nw p hp).2.2.2)
  · cases fl <;> exact hb.go F
end
section
variable {w : World} {B : Heap} {L : Addr} {m : PySem.Str → Option Value} {cl : List (PySem.Str × Addr)} {cm : PySem.Str → Option Value} {own rest news : List (Addr × Obj)} {s₀ s : Shared} {A : Around} {E : Value → Shared → Prop} {Q : Value → Shared → Prop} {n : Nat} {x : Addr} {its : List (PySem.Str × PySem.Str)} {init : Int}
theorem push_code {a b : PySem.Str} {ta tb : Tok} (R : Room (n + 5) A) (F : Fm w B L cl s₀ m cm (own ++ rest) s) (P : AccP x its init own) (hz : its.length ≤ 900)
    (h : ∀ own' s', AccP x (its ++ [(a, b)]) init own' → Fm w B L cl s₀ m cm (own' ++ rest) s' → Q .none s') :
   codeAny (M w) A (.call (.ref a_Acc_push) ⟨[.ref x, .str a ta, .str b tb], []⟩) (fun r s' => match r with | .ok (.ret v) => Q v s' | .ok _ => False | .error e => E e s') s := by
  refine call_fnC (binds := [("self", .ref x), ("fws", .str a ta), ("string", .str b tb)]) (fd := fd_Acc_push) (cmF := fun _ => none) R F (lk_Acc_push _) (cd_Acc_push _) rfl (BindsTo.of_eq rfl) (by decide) (by kernel_rfl) (fun _ _ e => (by cases e)) (fun _ _ _ e => (by cases e)) ?_ rfl rfl rfl
  obtain ⟨dx, n, k, vs, l, es, t, rfl, hE, hT⟩ := P
  intro Qo hQo L' s₁ hL F₁ R₁
  obtain ⟨h₁, g₁, d₁, k₁, o₁⟩ := s₁
  have X := F₁.K
  have hx := F₁.at 0 rfl
  have hd := F₁.at 1 rfl
  ktn_no "ast"
  ktn_no "w"
  refine acc_method X hx hd hE (by ktn_no "k_ev") (by ktn_no "k_ev") (by decide +kernel) (by ktn_no "k_ev") ?_
  ktn_no "w"
  refine st_newTuple (by simp) ?_
  ktn_no "w"
  have F₂ := Fm.push F₁ (tupO [.str a ta, .str b tb]) (tk := k₁)
  have hx' := F₂.at 1 rfl
  refine acc_append F₂.K hx' (by rw [hT.len]; (first | lia | omega)) fun h' n' hs hx'' => ?_
  have F₃ := F₂.set (i := 1) rfl hs hx'' (tk := k₁)
  ktn_no "w"
  refine hQo _ _ <| Back.of (F₃.perm (news' := ((x, accO dx (vs ++ [.ref h₁.objs.size]) n') :: (dx, dictOf es k) :: (l ++ [(h₁.objs.size, tupO [.str a ta, .str b tb])])) ++ rest) ?_) fun G => h _ _ ⟨_, _, _, _, _, _, _, rfl, hE, hT.append (.cons .nil)⟩ G
  simp only [List.cons_append, List.set]
  ktn_no "perm_tac"
end
section
variable {w : World} {A : Around} {E : Value → Shared → Prop} {x dx q : Addr} {vs : List Value} {n : Nat} {h : Heap} {g : Array GenState} {d : Drawn} {tk : Nat} {os : OsState} {env : Env} {pos : Pos} {k c : Nat} {es : List DictEntry} {mm : PySem.Str → Option Value}
theorem acc_bound {Q : Value → Shared → Prop} {ex : Bool} (X : (KF w.params).In h) (hx : h.get? x = some (accO dx vs n)) (hd : h.get? dx = some (dictOf es k)) (hD : EsOk es mm c) (hm : mm "push" = none)
    (q : Q (.ref h.objs.size) ⟨h.push (methodObj (.ref a_Acc_push) (.ref x)), g, d, tk + 1, os⟩) : wpAny (M w) A (getAttr (.ref x) "push" ex) Q E ⟨h, g, d, tk, os⟩ := by
  unfold getAttr getAttrBy
  ktn_no "go"
  rw [show onTheHeap (Value.builtin "list.__getattribute__") = false from rfl, Bool.and_false, if_neg Bool.false_ne_true]
  unfold boundAndCalled
  refine wpAny_bind ?_
  ktn_no "st_one"
  refine call_bi (i := "list.__getattribute__") (owner := "list") (n := "__getattribute__") (b := Builtin.«object.__getattribute__») (by first | exact .inr (by decide +kernel) | exact .inl (by decide +kernel)) (by decide +kernel) (by decide +kernel) (entryFor_alias (id' := "object.__getattribute__") (by decide +kernel) (by decide +kernel) (by decide +kernel) (by rw [fastTable_eq_tree]; kernel_rfl)) (by unfold argsOk; kernel_rfl) (looks_inst hx X (by ktn_no "k_ev")) ?_
  unfold Builtin.«object.__getattribute__»
  have L : Looks (model pw w) h (Builtin.ObjectAttr.find (.ref x) (.ref a_Acc) "push") (.bind (.builtin "function.__get__") (.ref a_Acc_push)) := looks_find X (acc_inst hx hd) (findObj_fn (by ktn_no "k_ev") (by ktn_no "k_ev") (by ktn_no "k_ev") (by ktn_no "k_ev") (by decide +kernel) (by rw [hD.look, hm]))
  repeat (first | (with_reducible refine Looks.at L ?_; dsimp only) | (ktn_no "no_call"; ktn_no "st_one"))
  exact wpAny_call (fn_get (s := ⟨h, g, d, tk + 1, os⟩) X (by ktn_no "k_ev") (wpAny_pure ⟨_, rfl, handed_on rfl q⟩))
theorem mc_star {o e : Expr} {name : PySem.Str} {apos p : Pos} {Q : Value → Shared → Prop} {s : Shared}
    (h : wpAny (M w) A (eval o env) (fun ov s₁ => wpAny (M w) A (getAttr ov name true) (fun f s₂ => wpAny (M w) A (callWith pos f [] (backTo pos (starEach [.Starred e p] env)) []) Q E s₂) E s₁) E s)
    (hbase : attributeBase o name env (eval o env) = eval o env) : wpAny (M w) A (eval (.Call (.Attribute o name apos) [.Starred e p] [] pos) env) Q E s := by
  rw [arm_eval_Call, hbase]
  refine wpAny_bind (wpAny_mono h (fun ov s₁ h₁ => ?_) fun _ _ e => e)
  refine wpAny_bind (wpAny_standAt ?_)
  have hfew : methodCallForm ([Expr.Starred e p].length + ([] : List Keyword).length) (backTo pos (starEach [.Starred e p] env)) (backToKw pos (keywordEach [] env)) = false := rfl
  unfold methodCall
  rw [hfew]
  refine wpAny_bind (wpAny_holding ?_)
  unfold calleeOf
  rw [if_neg (by decide)]
  refine wpAny_bind (wpAny_mono h₁ (fun fx s₂ h₂ => ?_) fun _ _ e => e)
  refine wpAny_pure ?_
  unfold methodCallPos
  exact wpAny_bind (wpAny_pure h₂)
theorem cw_mstar {f : Addr} {e : Expr} {p : Pos} {Q : Value → Shared → Prop} {s : Shared} (hf : fnIn (KF w.params) f = true)
    (h : wpAny (M w) A (eval e env) (fun v s₁ => StarOf (M w) A E v (fun vs s₂ => MethP (KF w.params) q f (.ref x) s₂.heap ∧ codeAny (M w) A (.call (.ref f) ⟨.ref x :: vs, []⟩) (fun r s' => match r with | .ok (.ret v) => Q v s' | .ok _ => False | .error e => E e s') s₂) s₁) E s) :
    wpAny (M w) A (callWith pos (.ref q) [] (backTo pos (starEach [.Starred e p] env)) []) Q E s := by
  have he : starEach [.Starred e p] env = [(true, eval e env)] := rfl
  rw [he]
  refine ks_call (P := MethP (KF w.params) q f (.ref x)) rfl (keeps_M hf) (ks_lone (wpAny_mono h (fun v s₁ h₁ => ?_) fun _ _ z => z))
  unfold StarOf at h₁ ⊢
  refine wpAny_mono h₁ (fun b s₂ ⟨hb, hc⟩ => ⟨hb, wpAny_mono hc (fun vs s₃ ⟨P, hcode⟩ => ⟨P, ?_⟩) fun _ _ z => z⟩) fun _ _ z => z
  refine wpAny_call (codeAny_of_tree ?_)
  show wpAny _ _ (callAny (.ref q) _) _ _ _
  unfold callAny
  refine wpAny_bind (wpAny_load P.1 ?_)
  dsimp only
  rw [if_pos (by decide)]
  exact wpAny_pure ⟨rfl, hcode⟩
end
theorem mem_fold {c : Nat} : ∀ {l : List PySem.Str} {a : PySem.Str}, (c ∈ a.cps ∨ ∃ z ∈ l, c ∈ z.cps) → c ∈ (l.foldl (· ++ ·) a).cps
  | [], a, h => by
    rcases h with h | ⟨z, hz, _⟩
    · exact h
    · cases hz
  | y :: r, a, h => by
    refine mem_fold (l := r) (a := a ++ y) ?_
    have e : (a ++ y).cps = a.cps ++ y.cps := rfl
    rcases h with h | ⟨z, hz, hc⟩
    · exact .inl (by rw [e]; exact Array.mem_append.mpr (.inl h))
    · rcases List.mem_cons.mp hz with rfl | hz
      · exact .inl (by rw [e]; exact Array.mem_append.mpr (.inr hc))
      · exact .inr ⟨z, hz, hc⟩
theorem accStr_fold (its : List (PySem.Str × PySem.Str)) : accStr its = (its.map fun y => y.1 ++ y.2).foldl (· ++ ·) ⟨#[]⟩ := by
  unfold accStr
  rw [eq_of_beq (join_closes (sep := (⟨#[]⟩ : PySem.Str)) (ys := its.map fun y => y.1 ++ y.2) rfl)]
  exact (fold_cat_join_nil _).symm
theorem accStr_space {c : Nat} {its : List (PySem.Str × PySem.Str)} (hc : Txt.isspace ⟨#[c]⟩ = false) (hw : ∀ y ∈ its, Word c y) (hne : its ≠ []) : Txt.isspace (accStr its) = false := by
  have hc' : Unicode.isSpace c = false := by simpa [Txt.isspace, PySem.Str.length] using hc
  obtain ⟨y, hy⟩ := List.exists_mem_of_ne_nil _ hne
  have hm : c ∈ (accStr its).cps := by
    rw [accStr_fold]
    refine mem_fold (.inr ⟨y.1 ++ y.2, List.mem_map_of_mem hy, ?_⟩)
    obtain ⟨_, ⟨l, hl⟩, _⟩ := hw y hy
    show c ∈ y.1.cps ++ y.2.cps
    rw [hl]; simp
  unfold Txt.isspace
  have : (accStr its).cps.all Unicode.isSpace = false := by
    rw [← Bool.not_eq_true, Array.all_eq_true_iff_forall_mem]
    intro h; rw [h c hm] at hc'; cases hc'
  rw [this, Bool.and_false]
theorem accLen_pos {c : Nat} {its : List (PySem.Str × PySem.Str)} (hw : ∀ y ∈ its, Word c y) (hne : its ≠ []) : 0 < accLen 0 its := by
  cases its with
  | nil => exact absurd rfl hne
  | cons y r =>
    have := (accLen_b (its := r) fun z hz => hw z (.tail _ hz)).1
    obtain ⟨_, ⟨l, hl⟩, _⟩ := hw y (.head _)
    have h2 : y.2.length = l.size + 1 := by show y.2.cps.size = _; rw [hl]; simp
    simp only [accLen, List.map_cons, List.sum_cons] at this ⊢
    rw [h2]; push_cast; (first | lia | omega)
section
variable {w : World} {B : Heap} {L : Addr} {m : PySem.Str → Option Value} {cl : List (PySem.Str × Addr)} {cm : PySem.Str → Option Value} {own rest news : List (Addr × Obj)} {s₀ s : Shared} {A : Around} {E : Value → Shared → Prop} {Q : Value → Shared → Prop} {n : Nat} {x : Addr} {its : List (PySem.Str × PySem.Str)} {lines : List PySem.Str} {mx : Int} {c : Nat} {sc : PySem.Str}
theorem newline_spec (R : Room (n + 40) A) (F : Fm w B L cl s₀ m cm (own ++ rest) s) (P : VfP x mx sc lines its own) (hc : Txt.isspace ⟨#[c]⟩ = false) (hne : its ≠ []) (hw : ∀ y ∈ its, Word c y) (hz : its.length ≤ 100) (hl : lines.length ≤ 800)
    (h : ∀ own' s', VfP x mx sc (lines ++ [accStr its]) [] own' → Fm w B L cl s₀ m cm (own' ++ rest) s' → Q .none s') :
   wpAny (M w) A (call (.ref a_VF_newline) [.ref x] []) Q E s := by
  refine call_fn (binds := [("self", .ref x)]) (fd := fd_VF_newline) (cmF := fun _ => none) R F (lk_VF_newline _) (cd_VF_newline _) rfl (BindsTo.of_eq rfl) (by decide) (by kernel_rfl) (fun _ _ e => (by cases e)) (fun _ _ _ e => (by cases e)) ?_ rfl rfl rfl
  obtain ⟨dv, kd, es, u1, u2, u3, u4, ll, ac, l, nl, oa, rfl, hE, hl1, hP⟩ := P
  intro Qo hQo L' s₁ hL F₁ R₁
  obtain ⟨h₁, g₁, d₁, k₁, o₁⟩ := s₁
  ktn_no "ast"
  ktn_no "x"
  refine vf_get F₁.K (F₁.at 0 rfl) (F₁.at 1 rfl) hE (by ktn_no "k_val") (by kernel_rfl) (by ktn_no "k_ev") ?_
  ktn_no "x"
  have F₂ := F₁.perm (news' := oa ++ ((x, vfO dv) :: (dv, dictOf es kd) :: (ll, lsO (strValues l) nl) :: rest)) (by ktn_no "perm_tac")
  refine accP_method F₂ hP (by ktn_no "k_ev") (by ktn_no "k_ev") (by decide +kernel) (by decide +kernel) ?_
  ktn_no "x"
  refine pop_spec (n := n + 20) (R₁.less (by ktn_no "le")) (F₂.toks _) hP (by ktn_no "om") fun oa₃ q tq1 tq2 s' P₃ F₃ => ?_
  obtain ⟨h₃, g₃, d₃, k₃, o₃⟩ := s'
  clear F₁ F₂
  refine st_L F₃ (by kernel_rfl) (by kernel_rfl!) (by kernel_rfl) fun h₄ F₄ => ?_
  clear F₃
  ktn_no "x"
  refine st_newTuple (by simp) ?_
  have F₅ := F₄.push1 (d := d₃) (tk := k₃ + 1 + 1 + 1) (tupO [.str (Str.ofString " ") (k₃ + 1), .str (Str.ofString "") (k₃ + 1 + 1)])
  refine ne_tup2 R₁.cl (F₅.at 1 rfl) (F₅.at 0 rfl) ?_
  have hlast : Word c (its.getLastD ("", "")) := by
    rw [List.getLastD_eq_getLast?, List.getLast?_eq_some_getLast hne]
    exact hw _ (List.getLast_mem hne)
  have e1 : ((its.getLastD ("", "")).1 == (Str.ofString " " : PySem.Str)) = false := by rw [hlast.1]; decide
  rw [e1]
  ktn_no "x"
  rw [if_pos (by simp)]
  have F₆ := (F₅.perm (news' := (h₄.objs.size, tupO [.str (Str.ofString " ") (k₃ + 1), .str (Str.ofString "") (k₃ + 1 + 1)]) :: (x, vfO dv) :: (dv, dictOf es kd) :: (ll, lsO (strValues l) nl) :: (q, tupO [.str (its.getLastD ("", "")).1 tq1, .str (its.getLastD ("", "")).2 tq2]) :: (oa₃ ++ rest)) (by ktn_no "perm_tac")).drop 1
  dsimp only [List.drop] at F₆
  clear F₄ F₅
  refine wpAny_execs_cons (wpAny_Expr_any (mc_star ?_ (by kernel_rfl)) (by kernel_rfl) (by kernel_rfl))
  ktn_no "x"
  refine vf_get F₆.K (F₆.at 0 rfl) (F₆.at 1 rfl) hE (by ktn_no "k_val") (by kernel_rfl) (by ktn_no "k_ev") ?_
  ktn_no "x"
  have G₂ := F₆.perm (news' := oa₃ ++ ((x, vfO dv) :: (dv, dictOf es kd) :: (ll, lsO (strValues l) nl) :: (q, tupO [.str (its.getLastD ("", "")).1 tq1, .str (its.getLastD ("", "")).2 tq2]) :: rest)) (by ktn_no "perm_tac")
  obtain ⟨dx₆, n₆, kk₆, vs₆, la₆, es₆, ta₆, rfl, hE₆, hT₆⟩ := P₃
  refine acc_bound G₂.K (G₂.at 0 rfl) (G₂.at 1 rfl) hE₆ (by kernel_rfl) ?_
  have F₇ := F₆.push1 (d := d₃) (tk := k₃ + 1 + 1 + 1 + 1 + 1) (methodObj (.ref a_Acc_push) (.ref ac))
  refine cw_mstar (x := ac) (f := a_Acc_push) (by kernel_rfl) ?_
  ktn_no "x"
  refine star_tup F₇ (F₇.at 4 rfl) (by simp) fun h₈ F₈ => ⟨⟨F₈.at 0 rfl, F₈.K⟩, ?_⟩
  have F₉ := F₈.drop 1
  dsimp only [List.drop] at F₉
  have G₃ := F₉.perm (news' := ((ac, accO dx₆ vs₆ n₆) :: (dx₆, dictOf es₆ kk₆) :: la₆) ++ ((x, vfO dv) :: (dv, dictOf es kd) :: (ll, lsO (strValues l) nl) :: (q, tupO [.str (its.getLastD ("", "")).1 tq1, .str (its.getLastD ("", "")).2 tq2]) :: rest)) (by ktn_no "perm_tac")
  refine push_code (n := n + 20) (R₁.less (by ktn_no "le")) (G₃.toks _) ⟨_, _, _, _, _, _, _, rfl, hE₆, hT₆⟩ (by simp; (first | lia | omega)) fun oa₁₀ s' P₁₀ F₁₀ => ?_
  obtain ⟨h₁₀, g₁₀, d₁₀, k₁₀, o₁₀⟩ := s'
  clear G₂ G₃ F₆ F₇ F₈ F₉
  have eits : its.dropLast ++ [((its.getLastD ("", "")).1, (its.getLastD ("", "")).2)] = its := by
    have e2 : its.getLastD ("", "") = its.getLast hne := by
      rw [List.getLastD_eq_getLast?, List.getLast?_eq_some_getLast hne]; rfl
    rw [e2]
    exact List.dropLast_concat_getLast hne
  rw [eits] at P₁₀
  have F₁₁ := F₁₀.perm (news' := (x, vfO dv) :: (dv, dictOf es kd) :: (ll, lsO (strValues l) nl) :: (oa₁₀ ++ ((q, tupO [.str (its.getLastD ("", "")).1 tq1, .str (its.getLastD ("", "")).2 tq2]) :: rest))) (by ktn_no "perm_tac")
  have hb := accLen_b hw
  have hpos := accLen_pos hw hne
  ktn_no "x"
  refine vf_get F₁₁.K (F₁₁.at 0 rfl) (F₁₁.at 1 rfl) hE (by ktn_no "k_val") (by kernel_rfl) (by ktn_no "k_ev") ?_
  ktn_no "x"
  refine len_call (n := n + 10) (R₁.less (by ktn_no "le")) (F₁₀.toks _) P₁₀ (fun y hy => (hw y hy).b1) hb.1 (by ktn_no "om") fun t₁₂ s' F₁₂ => ?_
  obtain ⟨h₁₂, g₁₂, d₁₂, k₁₂, o₁₂⟩ := s'
  clear F₁₀ F₁₁
  have F₁₃ := F₁₂.perm (news' := (x, vfO dv) :: (dv, dictOf es kd) :: (ll, lsO (strValues l) nl) :: (oa₁₀ ++ ((q, tupO [.str (its.getLastD ("", "")).1 tq1, .str (its.getLastD ("", "")).2 tq2]) :: rest))) (by ktn_no "perm_tac")
  ktn_no "x"
  rw [if_pos (by simpa using hpos)]
  ktn_no "x"
  refine vf_get F₁₃.K (F₁₃.at 0 rfl) (F₁₃.at 1 rfl) hE (by ktn_no "k_val") (by kernel_rfl) (by ktn_no "k_ev") ?_
  ktn_no "x"
  refine accP_method F₁₂ P₁₀ (by ktn_no "k_ev") (by ktn_no "k_ev") (by decide +kernel) (by decide +kernel) ?_
  ktn_no "x"
  refine onlyws_spec (n := n + 10) (R₁.less (by ktn_no "le")) (F₁₂.toks _) P₁₀ (by ktn_no "om") (fun y hy => (hw y hy).b2) hb.1 (by ktn_no "om") fun s' F₁₄ => ?_
  obtain ⟨h₁₄, g₁₄, d₁₄, k₁₄, o₁₄⟩ := s'
  clear F₁₂ F₁₃
  have F₁₅ := F₁₄.perm (news' := (x, vfO dv) :: (dv, dictOf es kd) :: (ll, lsO (strValues l) nl) :: (oa₁₀ ++ ((q, tupO [.str (its.getLastD ("", "")).1 tq1, .str (its.getLastD ("", "")).2 tq2]) :: rest))) (by ktn_no "perm_tac")
  rw [accStr_space hc hw hne, show (accLen 0 its == 0) = false by simp; (first | lia | omega)]
  ktn_no "x"
  rw [if_neg (by decide)]
  try rw [if_neg (by decide)]
  ktn_no "x"
  refine vf_get F₁₅.K (F₁₅.at 0 rfl) (F₁₅.at 1 rfl) hE (by ktn_no "k_val") (by kernel_rfl) (by ktn_no "k_ev") ?_
  ktn_no "x"
  refine Calls.getMethod_list_append (F₁₅.at 2 rfl) rfl rfl ?_
  ktn_no "x"
  refine vf_get F₁₅.K (F₁₅.at 0 rfl) (F₁₅.at 1 rfl) hE (by ktn_no "k_val") (by kernel_rfl) (by ktn_no "k_ev") ?_
  ktn_no "x"
  refine str_call (n := n + 10) (R₁.less (by ktn_no "le")) (F₁₄.toks _) P₁₀ (by ktn_no "om") (fun y hy => (hw y hy).b2) fun t₁₆ s' F₁₆ => ?_
  obtain ⟨h₁₆, g₁₆, d₁₆, k₁₆, o₁₆⟩ := s'
  clear F₁₄ F₁₅
  have G₁ := F₁₆.perm (news' := (x, vfO dv) :: (dv, dictOf es kd) :: (ll, lsO (strValues l) nl) :: (oa₁₀ ++ ((q, tupO [.str (its.getLastD ("", "")).1 tq1, .str (its.getLastD ("", "")).2 tq2]) :: rest))) (by ktn_no "perm_tac")
  ktn_no "x"
  have hll : l.length = lines.length := by rw [← hl1]; simp
  refine append_at (G₁.at 2 rfl) (fun h₂₀ hs₂₀ hx₂₀ => ?_) (Nat.le_trans (by simp [strValues]; (first | lia | omega)) (show (1000 : Nat) ≤ sizeLine by decide))
  have F₂₀ := G₁.set1 (i := 2) (d := d₁₆) (tk := k₁₆) rfl hs₂₀ hx₂₀
  dsimp only [List.set] at F₂₀
  clear F₁₆ G₁
  ktn_no "x"
  refine vf_get F₂₀.K (F₂₀.at 0 rfl) (F₂₀.at 1 rfl) hE (by ktn_no "k_val") (by kernel_rfl) (by ktn_no "k_ev") ?_
  ktn_no "x"
  have G₂ := F₂₀.perm (news' := oa₁₀ ++ ((x, vfO dv) :: (dv, dictOf es kd) :: (ll, ⟨.type "list", none, .seq ((strValues l).toArray.push (.str (accStr its) t₁₆)) (nl + 1), #[]⟩) :: (q, tupO [.str (its.getLastD ("", "")).1 tq1, .str (its.getLastD ("", "")).2 tq2]) :: rest)) (by ktn_no "perm_tac")
  refine accP_method G₂ P₁₀ (by ktn_no "k_ev") (by ktn_no "k_ev") (by decide +kernel) (by decide +kernel) ?_
  ktn_no "x"
  refine reset_none (n := n + 20) (R₁.less (by ktn_no "le")) (G₂.toks _) P₁₀ (by ktn_no "om") fun own3 s' P₇ F₂₁ => ?_
  obtain ⟨h₂₁, g₂₁, d₂₁, k₂₁, o₂₁⟩ := s'
  ktn_no "x"
  have e5 : (strValues l).toArray.push (.str (accStr its) t₁₆) = (strValues (l ++ [(accStr its, t₁₆)])).toArray := by simp [strValues]
  rw [e5] at F₂₁
  refine hQo _ _ <| Back.of ((F₂₁.perm (news' := (q, tupO [.str (its.getLastD ("", "")).1 tq1, .str (its.getLastD ("", "")).2 tq2]) :: ((x, vfO dv) :: (dv, dictOf es kd) :: (ll, ⟨.type "list", none, .seq (strValues (l ++ [(accStr its, t₁₆)])).toArray (nl + 1), #[]⟩) :: own3) ++ rest) (by ktn_no "perm_tac")).drop 1) fun G => ?_
  exact h ((x, vfO dv) :: (dv, dictOf es kd) :: (ll, lsO (strValues (l ++ [(accStr its, t₁₆)])) (nl + 1)) :: own3) _ ⟨_, _, _, _, _, _, _, _, _, _, _, _, rfl, hE, by simp [hl1], P₇⟩ G
end
section
variable {w : World} {B : Heap} {L : Addr} {m : PySem.Str → Option Value} {cl : List (PySem.Str × Addr)} {cm : PySem.Str → Option Value} {own rest news : List (Addr × Obj)} {s₀ s : Shared} {A : Around} {E : Value → Shared → Prop} {Q : Value → Shared → Prop} {n : Nat} {x : Addr} {its : List (PySem.Str × PySem.Str)} {lines : List PySem.Str} {mx : Int} {c : Nat} {sc : PySem.Str}
theorem vfstr_spec {sep : PySem.Str} {ts : Tok} (R : Room (n + 44) A) (F : Fm w B L cl s₀ m cm (own ++ rest) s) (P : VfP x mx sc lines its own) (hc : Txt.isspace ⟨#[c]⟩ = false) (hne : its ≠ []) (hw : ∀ y ∈ its, Word c y) (hz : its.length ≤ 100) (hl : lines.length ≤ 800)
    (hj : JoinOk sep (lines ++ [accStr its]) = true)
    (h : ∀ t own' s', VfP x mx sc (lines ++ [accStr its]) [] own' → Fm w B L cl s₀ m cm (own' ++ rest) s' → Q (.str (Txt.join sep (lines ++ [accStr its])) t) s') :
   wpAny (M w) A (call (.ref a_VF_str) [.ref x, .str sep ts] []) Q E s := by
  refine call_fn (binds := [("self", .ref x), ("linesep", .str sep ts)]) (fd := fd_VF_str) (cmF := fun _ => none) R F (lk_VF_str _) (cd_VF_str _) rfl (BindsTo.of_eq rfl) (by decide) (by kernel_rfl) (fun _ _ e => (by cases e)) (fun _ _ _ e => (by cases e)) ?_ rfl rfl rfl
  have P₀ := P
  obtain ⟨dv, kd, es, u1, u2, u3, u4, ll, ac, l, nl, oa, rfl, hE, hl1, hP⟩ := P
  intro Qo hQo L' s₁ hL F₁ R₁
  obtain ⟨h₁, g₁, d₁, k₁, o₁⟩ := s₁
  ktn_no "ast"
  ktn_no "x"
  refine vf_method F₁.K (F₁.at 0 rfl) (F₁.at 1 rfl) hE (by ktn_no "k_ev") (by ktn_no "k_ev") (by kernel_rfl) ?_
  ktn_no "x"
  refine newline_spec (n := n + 2) (R₁.less (by ktn_no "le")) (F₁.toks _) P₀ hc hne hw hz hl fun own2 s' P₂ F₂ => ?_
  obtain ⟨h₂, g₂, d₂, k₂, o₂⟩ := s'
  have P₃ := P₂
  obtain ⟨dv, kd, es, u1, u2, u3, u4, ll, ac, l, nl, oa, rfl, hE, hl1, hP⟩ := P₂
  clear F₁
  ktn_no "x"
  refine GM.join ?_
  ktn_no "x"
  refine vf_get F₂.K (F₂.at 0 rfl) (F₂.at 1 rfl) hE (by ktn_no "k_val") (by kernel_rfl) (by ktn_no "k_ev") ?_
  ktn_no "x"
  refine join_tup (F₂.at 2 rfl) (.inl rfl) rfl (by rw [hl1]; exact hj) fun t' k' => ?_
  refine hQo _ _ <| Back.of (Fm.toks F₂ _) fun G => ?_
  rw [hl1]
  exact h _ _ _ P₃ G
end
section
variable {prog : Program} {w : World} {A : Around} {R : GenEnd} {Y : Protocol} {n : Nat} {s₀ : Shared} {c : Code} {fs : List Frame} {s : Shared} {env : Env}
  {K : Flow → Sem Fin} {H : Value → Sem Fin} {gd : Bool → Bool} {lv : List Value → List Value}
/-- a statement that gives out nothing -/
theorem seg_quiet {st : Stmt} {rest : List Stmt} (h : wpAny (model prog w) (A.over c fs) (exec st env) (fun f s' => match f with
      | .next => Seg (model prog w) A R Y n s₀ c ((execs rest env).wrap K H gd lv) fs s'
      | f => Seg (model prog w) A R Y n s₀ c (K f) fs s') (fun _ _ => False) s) :
    Seg (model prog w) A R Y n s₀ c ((execs (st :: rest) env).wrap K H gd lv) fs s := by
  refine seg_execs_cons (seg_wrap (wpAny_mono h (fun f s' h' => ?_) fun _ _ z => z.elim))
  cases f <;> exact h'
theorem seg_bw {α β : Type} {m : Sem α} {k : α → Sem β} {K : β → Sem Fin} (h : wpAny (model prog w) (A.over c fs) m (fun a s' => Seg (model prog w) A R Y n s₀ c ((k a).wrap K H gd lv) fs s') (fun _ _ => False) s) :
    Seg (model prog w) A R Y n s₀ c ((m >>= k).wrap K H gd lv) fs s := by
  rw [Sem.bind_eq_wrap', Sem.wrap_wrap]
  exact seg_wrap (wpAny_mono h (fun _ _ z => z) fun _ _ z => z.elim)
theorem exec_If (test : Expr) (body orelse : List Stmt) (pos : Pos) : exec (.If test body orelse pos) env = (do
    standAt pos
    if ← isTrue test env (eval test env) then execs body env else execs orelse env) := rfl
theorem seg_If {test : Expr} {body orelse : List Stmt} {pos : Pos}
    (h : wpAny (model prog w) (A.over c fs) (isTrue test env (eval test env)) (fun b s' =>
      if b = true then Seg (model prog w) A R Y n s₀ c ((execs body env).wrap K H gd lv) fs s' else Seg (model prog w) A R Y n s₀ c ((execs orelse env).wrap K H gd lv) fs s') (fun _ _ => False) s) :
    Seg (model prog w) A R Y n s₀ c ((exec (.If test body orelse pos) env).wrap K H gd lv) fs s := by
  rw [exec_If]
  refine seg_at ?_
  show Seg _ A R Y n s₀ c (Sem.wrap K H gd lv (isTrue test env (eval test env) >>= fun b => if b = true then execs body env else execs orelse env)) fs s
  refine seg_bw (wpAny_mono h (fun b s' hb => ?_) fun _ _ z => z.elim)
  cases b with
  | true => exact hb
  | false => exact hb
theorem seg_For {target iter : Expr} {body orelse : List Stmt} {pos : Pos} (hs : ∀ x, foldedSetIterable iter env x = pure x)
    (h : wpAny (model prog w) (A.over c fs) (eval iter env) (fun xv s₁ => wpAny (model prog w) (A.over c fs) (pyIter xv) (fun it s₂ =>
      ∀ p, Seg (model prog w) A R Y n s₀ (.forLoop target it body orelse env) ((model prog w).den (.forLoop target it body orelse env))
      (.ret (fun r => ((match r with | .ok f => (.pure f : Sem Flow) | .error e => .raise e).onRaise fun (x : Value) => do
        if (← field x 1) == Value.none then unsupported "frame.own-activation:exception-without-traceback"
        setFlight x env.frame).wrap K H gd lv) none (gd false) (lv []) c p [] :: fs) s₂) (fun _ _ => False) s₁) (fun _ _ => False) s) :
    Seg (model prog w) A R Y n s₀ c ((exec (.For target iter body orelse pos) env).wrap K H gd lv) fs s := by
  rw [arm_exec_For]
  refine seg_at ?_
  show Seg _ A R Y n s₀ c (Sem.wrap K H gd lv (eval iter env >>= fun x => foldedSetIterable iter env x >>= fun x => standAt iter.pos >>= fun _ => holding [x] (pyIter x) >>= fun it => runOwn (.forLoop target it body orelse env) env)) fs s
  refine seg_bw (wpAny_mono h (fun xv s₁ h₁ => ?_) fun _ _ z => z.elim)
  refine seg_bw (wpAny_of_eq (hs xv) ?_)
  refine seg_bw (wpAny_standAt ?_)
  refine seg_bw (wpAny_holding (wpAny_mono h₁ (fun it s₂ h₂ => ?_) fun _ _ z => z.elim))
  exact seg_call h₂
/-- one turn of a for loop -/
theorem seg_forLoop {target : Expr} {it : Value} {body orelse : List Stmt}
    (h : wpAny (model prog w) (A.over (.forLoop target it body orelse env) fs) (pyNext it) (fun r s₁ => match r with
      | none => Seg (model prog w) A R Y n s₀ (.block orelse env) ((model prog w).den (.block orelse env)) fs s₁
      | some v => wpAny (model prog w) (A.over (.forLoop target it body orelse env) fs) (letOwnedTupleGo target it v) (fun _ s₂ => wpAny (model prog w) (A.over (.forLoop target it body orelse env) fs) (assign target env v) (fun _ s₃ =>
          Seg (model prog w) A R Y n s₀ (.forLoop target it body orelse env) ((execs body env).wrap (fun f => match f with
            | .next | .cont => .pure (.again (.forLoop target it body orelse env))
            | .brk => .pure (.done .next)
            | .ret v => .pure (.done (.ret v))) (fun e => (do noteFrame e env; theTreesLotGoes e : Sem Unit).wrap (fun _ => .raise e) .raise id id) id id) fs s₃) (fun _ _ => False) s₂) (fun _ _ => False) s₁) (fun _ _ => False) s) :
    Seg (model prog w) A R Y n s₀ (.forLoop target it body orelse env) ((model prog w).den (.forLoop target it body orelse env)) fs s := by
  show Seg _ A R Y n s₀ _ ((forTurn target it body orelse env).onRaise (fun x => do noteFrame x env; theTreesLotGoes x)) fs s
  unfold forTurn
  rw [Sem.onRaise_eq_wrap]
  refine seg_bw (wpAny_standAt ?_)
  refine seg_bw (wpAny_onRaise (wpAny_mono h (fun r s₁ h₁ => ?_) fun _ _ z => z.elim))
  cases r with
  | none => exact seg_again rfl h₁
  | some v =>
    refine seg_bw (wpAny_mono h₁ (fun _ s₂ h₂ => ?_) fun _ _ z => z.elim)
    refine seg_bw (wpAny_mono h₂ (fun _ s₃ h₃ => ?_) fun _ _ z => z.elim)
    rw [Sem.bind_eq_wrap', Sem.wrap_wrap]
    rw [Sem.wrap_congr (execs body env) _ _ (K' := fun f => match f with
            | .next | .cont => .pure (.again (.forLoop target it body orelse env))
            | .brk => .pure (.done .next)
            | .ret v => .pure (.done (.ret v))) (H' := (fun e => (do noteFrame e env; theTreesLotGoes e : Sem Unit).wrap (fun _ => .raise e) .raise id id))
        (fun f => by cases f <;> rfl) (fun e => by show (do noteFrame e env; theTreesLotGoes e : Sem Unit).bind (fun _ => .raise e) = _; rw [Sem.bind_eq_wrap])]
    exact h₃
end
section
variable {prog : Program} {w : World} {A : Around} {E : Value → Shared → Prop} {s : Shared}
theorem genNext {a : Addr} {g n : Nat} {gs : GenState} {P : Nat → Shared → Shared → Prop} {Y : Protocol} {Q : Option Value → Shared → Prop} (hh : A.handled = none)
    (hl : s.heap.NoLimit) (hroom : A.depth < recursionLimit) (hg : s.heap.IsGen a g) (hgs : s.gens[g]? = some gs)
    (hgo : gs.Goes (model prog w) A.in1 (fun n s₀ r s₁ => r = .ok (.ret .none) ∧ P n s₀ s₁) Y n (.send .none) (s.setGen g .running))
    (hY : ∀ v s₁ gs', gs'.bare = true → Y (n - 1) (s.setGen g .running) v s₁ (fun r' s'' => match n with
        | 0 => False
        | m + 1 => gs'.Goes (model prog w) A.in1 (fun n s₀ r s₁ => r = .ok (.ret .none) ∧ P n s₀ s₁) Y m r' s'') → Q (some v) (s₁.setGen g gs'))
    (hP : ∀ s₁, P n (s.setGen g .running) s₁ → ∀ h', (∀ b o, s₁.heap.get? b = some o → h'.get? b = some o) → Q none { s₁.setGen g .finished with heap := h' }) :
    wpAny (model prog w) A (pyNext (.ref a)) Q E s := by
  unfold pyNext
  refine wpAny_bind (wpAny_attempt (wpAny_callSpecial?_slot (name := Str.ofString "__next__") hg.typeIs slot_gen_next
    (wpAny_call_entry slot_gen_next hg.typeIs entry_gen_next ?_ (args_gen_next _))))
  show wpAny _ A.in1 (Builtin.Generator.genWake (.ref a) (.send .none)) _ _ s
  unfold Builtin.Generator.genWake
  refine wpAny_bind (wpAny_holding (wpAny_genNumber hg (wpAny_bind (wpAny_genState hgs ?_))))
  cases gs with
  | running => exact hgo.elim
  | finished => exact hgo.elim
  | _ =>
    refine wpAny_bind (wpAny_roomToWake hl hroom ?_)
    show wpAny _ A.in1 (.resume g (.send .none) [] _) _ _ s
    refine wpAny_resumeQ hgs hgo (fun x s₁ hx => ?_) (fun v s₁ gs' hb hv => ?_)
    · obtain ⟨rfl, hp⟩ := hx
      show wpAny _ A.in1 (newExc (.type "StopIteration") [] >>= _) _ _ _
      refine wpAny_bind ?_
      simp only [newExc, newTuple]
      refine wpAny_bind (wpAny_newObj_type ?_ (by size_fits))
      refine wpAny_bind (m := firstArgMember _ _) (wpAny_of_eq (a := Value.none) (by first | rfl | (simp only [firstArgMember]; rfl)) ?_)
      refine wpAny_newObj_type ?_ (by size_fits)
      simp only [raiseNew]
      refine wpAny_bind (wpAny_bind (wpAny_handled ?_))
      first | rw [show A.in1.handled = none from hh] | rw [hh]
      refine wpAny_throw ?_
      refine wpAny_bind (wpAny_isInstance (T := "StopIteration") (b := true) ⟨_, Heap.get?_push_size _ rfl, rfl⟩ isSubtype_stop ?_)
      exact wpAny_pure (hP s₁ hp _ fun b o hb => Heap.get?_push_of_some _ (Heap.get?_push_of_some _ hb))
    · exact wpAny_pure ⟨v, rfl, wpAny_pure (hY v s₁ gs' hb hv)⟩
end
/-- the units of a text: a backslash and what follows are one; place and unit -/
noncomputable def esc : List Nat → Nat → Bool → Nat → List (Nat × PySem.Str)
  | [], _, e, last => if e then [(last, ⟨#[92]⟩)] else []
  | c :: r, p, e, _ => if e then (p, ⟨#[92, c]⟩) :: esc r (p + 1) false p else if c = 92 then esc r (p + 1) true p else (p, ⟨#[c]⟩) :: esc r (p + 1) false p
noncomputable def units (x : PySem.Str) : List (Nat × PySem.Str) := esc x.cps.toList 0 false 0
noncomputable abbrev enumO (S : Addr) (i : Int) (old : Value) : Obj := ⟨.type "enumerate", none, .fields #[.none, .bool false, .ref S, rawInt i, .none, old], #[]⟩
noncomputable abbrev enumP (S : Addr) (i : Int) (item : Value) (a : Addr) : Obj := ⟨.type "enumerate", none, .fields #[rawInt a, .bool false, .ref S, rawInt i, .none, item], #[]⟩
noncomputable def SiO (x : PySem.Str) (tx : Tok) (p : Nat) (o : Obj) : Prop := o.cls = .type "str_ascii_iterator" ∧ o.data = .fields #[.str x tx, .int p 0]
section
variable {w : World} {B : Heap} {L E S : Addr} {m : PySem.Str → Option Value} {cl : List (PySem.Str × Addr)} {cm : PySem.Str → Option Value} {more news : List (Addr × Obj)} {s₀ s : Shared} {A : Around} {h h' : Heap} {g : Array GenState} {d d₀ : Drawn} {tk tk₀ : Nat} {os : OsState} {oE oS oE' oS' : Obj}
theorem Fm.set2 (F : Fm w B L cl s₀ m cm ((E, oE) :: (S, oS) :: more) ⟨h, g, d₀, tk₀, os⟩) (k : ∀ b o, b ≠ E → b ≠ S → h.get? b = some o → h'.get? b = some o) (hE : h'.get? E = some oE') (hS : h'.get? S = some oS') :
    Fm w B L cl s₀ m cm ((E, oE') :: (S, oS') :: more) ⟨h', g, d, tk, os⟩ := by
  (refine x0_4 (F.nw _ (.head _)) ?_; intro _ hEL hEB hEs)
  (refine x0_4 (F.nw _ (.tail _ (.head _))) ?_; intro _ hSL hSB hSs)
  have hnd := F.nd
  simp only [List.map_cons, List.nodup_cons, List.mem_cons, not_or] at hnd
  obtain ⟨⟨hES, hEm⟩, hSm, hm⟩ := hnd
  (refine x3_2 (F.ns) ?_; intro oL es ep hL r)
  have kk : ∀ b o, b ≠ E → b ≠ S → (⟨h, g, d₀, tk₀, os⟩ : Shared).heap.get? b = some o → h'.get? b = some o := k
  refine { wf := F.wf, ns := ⟨oL, es, ep, kk _ _ hEL.symm hSL.symm hL, r⟩, keep := fun b ob e => kk b ob (fun q => by rw [q, hEB] at e; cases e) (fun q => by rw [q, hSB] at e; cases e) (F.keep b ob e), above := F.above, nw := fun p hp => ?_, nd := ?_, ce := fun n c e => ?_, cd := fun n c e => ?_, cp := F.cp, tb := F.tb.part fun b ob hb e => kk b ob (fun q => absurd hb (by rw [q]; exact Nat.not_lt.mpr hEs)) (fun q => absurd hb (by rw [q]; exact Nat.not_lt.mpr hSs)) e, rl := ⟨F.rl.os, F.rl.gens, F.rl.bare, fun t ht ps e => ?_, trivial⟩ }
  · rcases List.mem_cons.mp hp with rfl | hp
    · exact ⟨hE, hEL, hEB, hEs⟩
    · rcases List.mem_cons.mp hp with rfl | hp
      · exact ⟨hS, hSL, hSB, hSs⟩
      · (refine x0_4 (F.nw p (.tail _ (.tail _ hp))) ?_; intro a b c d)
        exact ⟨kk _ _ (fun q => hEm (List.mem_map.mpr ⟨p, hp, q⟩)) (fun q => hSm (List.mem_map.mpr ⟨p, hp, q⟩)) a, b, c, d⟩
  · simp only [List.map_cons, List.nodup_cons, List.mem_cons, not_or]
    exact ⟨⟨hES, hEm⟩, hSm, hm⟩
  · (refine x1_2 (F.ce n c e) ?_; intro oc hoc hd)
    have := (F.cd n c e).2.1
    simp only [List.map_cons, List.mem_cons, not_or] at this
    exact ⟨oc, kk _ _ this.1 this.2.1 hoc, hd⟩
  · (refine x0_3 (F.cd n c e) ?_; intro a b c')
    refine ⟨a, ?_, c'⟩
    simpa using b
  · obtain ⟨m, e'⟩ := F.rl.tg t ht ps e
    exact ⟨m, kk _ _ (fun q => tab_ne ht hEs q.symm) (fun q => tab_ne ht hSs q.symm) e'⟩
theorem enum_next {x : PySem.Str} {tx : Tok} {p c : Nat} {old : Value} {Q : Option Value → Shared → Prop} {Er : Value → Shared → Prop} (F : Fm w B L cl s₀ m cm ((E, enumO S p old) :: (S, oS) :: more) ⟨h, g, d₀, tk₀, os⟩) (hh : A.handled = none) (ho : SiO x tx p oS) (hc : x.cps[p]? = some c)
    (q : ∀ h' tk' t1 t2 oS', SiO x tx (p + 1) oS' → Fm w B L cl s₀ m cm ((h.objs.size, tupO [.int p t1, .str ⟨#[c]⟩ t2]) :: (E, enumP S (p + 1) (.str ⟨#[c]⟩ t2) h.objs.size) :: (S, oS') :: more) ⟨h', g, d, tk', os⟩ → Q (some (.ref h.objs.size)) ⟨h', g, d, tk', os⟩) :
    wpAny (M w) A (pyNext (.ref E)) Q Er ⟨h, g, d, tk, os⟩ := by
  have hnd := F.nd
  simp only [List.map_cons, List.nodup_cons, List.mem_cons, not_or] at hnd
  have hlt : p < x.cps.size := by
    rcases Nat.lt_or_ge p x.cps.size with z | z
    · exact z
    · rw [Array.getElem?_eq_none z] at hc; cases hc
  have D := Draws.strAscii (prog := pw) (w := w) (A := A.in1) hh S x tx
  refine wpAny_pyNext_enum_itemD (s := ⟨h, g, d, tk, os⟩) D (F.at 0 rfl) ⟨oS, F.at 1 rfl, ho⟩ hlt hnd.1.1 (by simpa using hnd.1.1) fun y h' tk' hP ho' hs' hT hsz hk => ?_
  (refine x2_2 (hP) ?_; try clear hP; intro c' t2 hc' eqX3; subst eqX3)
  rw [hc] at hc'; cases hc'
  (refine x1_2 (hs') ?_; try clear hs'; intro oS' hS' hd')
  have F₁ := F.withD (d := d) (tk := tk)
  have F₂ := Fm.set2 (h' := h') (d := d) (tk := tk' + 1) F (fun b o h1 h2 e => hk b o h1 h2 e) ho' hS'
  refine q h' (tk' + 1) tk' t2 oS' hd' ?_
  have hB : B.get? h.objs.size = none := by
    cases z : B.get? h.objs.size with
    | none => rfl
    | some o => exact absurd (Heap.lt_size (F.keep _ _ z)) (Nat.lt_irrefl _)
  have nm : h.objs.size ∉ ((E, enumO S p old) :: (S, oS) :: more).map (·.1) := fun z => by
    simp only [List.map_cons, List.mem_cons] at z
    rcases z with z | z | z
    · exact absurd (Heap.lt_size (F.at 0 rfl)) (by rw [← z]; exact Nat.lt_irrefl _)
    · exact absurd (Heap.lt_size (F.at 1 rfl)) (by rw [← z]; exact Nat.lt_irrefl _)
    · (refine x1_2 (List.mem_map.mp z) ?_; intro pp hp e)
      exact absurd (Heap.lt_size (F.nw pp (.tail _ (.tail _ hp))).1) (by rw [e]; exact Nat.lt_irrefl _)
  refine { F₂ with nw := fun pp hp => ?_, nd := ?_, cd := fun n cc e => ?_ }
  · rcases List.mem_cons.mp hp with rfl | hp
    · exact ⟨hT, fun z => absurd F.ns.lt (by rw [← z]; exact Nat.lt_irrefl _), hB, Nat.le_trans F.szL (Nat.le_of_lt F.ns.lt)⟩
    · exact F₂.nw pp hp
  · exact List.nodup_cons.mpr ⟨nm, F₂.nd⟩
  · (refine x0_3 (F₂.cd n cc e) ?_; intro a b c'')
    refine ⟨a, fun z => ?_, c''⟩
    rcases List.mem_cons.mp z with z | z
    · (refine x1_2 (F.ce n cc e) ?_; intro oc hoc _)
      exact absurd (Heap.lt_size hoc) (by rw [z]; exact Nat.lt_irrefl _)
    · exact b z
theorem enum_go {p : Int} {T : Addr} {item : Value} {oT : Obj} {elts : List Expr} {k : Nat} {pos : Pos} {Q : Unit → Shared → Prop} {Er : Value → Shared → Prop} (F : Fm w B L cl s₀ m cm ((T, oT) :: (E, enumP S p item T) :: more) ⟨h, g, d₀, tk₀, os⟩)
    (q : ∀ h', Fm w B L cl s₀ m cm ((T, oT) :: (E, enumO S p item) :: more) ⟨h', g, d, tk, os⟩ → Q () ⟨h', g, d, tk, os⟩) : wpAny (M w) A (letOwnedTupleGo (.Tuple elts k pos) (.ref E) (.ref T)) Q Er ⟨h, g, d, tk, os⟩ :=
  wpAny_letOwnedTupleGo_enum (s := ⟨h, g, d, tk, os⟩) (F.at 1 rfl) fun h' he' hs' => q h' (F.set1 (i := 1) rfl hs' he')
theorem ascii_end {it : Addr} {x : PySem.Str} {t : Tok} {i : Nat} {s : Shared} {Q : Value → Shared → Prop} {Er : Value → Shared → Prop} (hh : A.handled = none)
    (hit : s.heap.IsStrIter it "str_ascii_iterator" x t i) (hx : x.cps[i]? = none)
    (hE : ∀ h' e, Heap.ExtBut it s.heap h' → (∃ o, h'.get? it = some o) → (∃ o, h'.get? e = some o ∧ o.cls = .type "StopIteration") → Er (.ref e) { s with heap := h' }) :
    wpAny (M w) A (Builtin.SmallTypes.nextOf (.ref it)) Q Er s := by
  (refine x1_3 (id hit) ?_; intro o ho hc hd)
  unfold Builtin.SmallTypes.nextOf
  refine wpAny_bind (wpAny_callSpecial?_slot (name := Str.ofString "__next__") hit.typeIs PySem.F.slot_str_ascii_iterator_next
    (wpAny_call_entry PySem.F.slot_str_ascii_iterator_next hit.typeIs PySem.F.entry_str_ascii_iterator_next ?_ (PySem.F.args_str_ascii_iterator_next_1 _)))
  show wpAny _ _ (field (.ref it) 0 >>= _) _ _ s
  refine wpAny_bind (wpAny_field ho hd (x := .str x t) rfl ?_)
  show wpAny _ _ (field (.ref it) 1 >>= _) _ _ s
  refine wpAny_bind (wpAny_field ho hd (x := .int i 0) rfl ?_)
  simp only [Int.toNat_natCast, hx]
  refine wpAny_bind (wpAny_rule (wpAny_bind (wpAny_setField ho hd (by simp) (wpAny_bind (wpAny_letGo ?_)))))
  show wpAny _ _ (newExc (.type "StopIteration") [] >>= _) _ _ _
  refine wpAny_bind ?_
  simp only [newExc, newTuple]
  refine wpAny_bind (wpAny_newObj_type ?_ (by size_fits))
  refine wpAny_bind (m := firstArgMember _ _) (wpAny_of_eq (a := Value.none) (by first | rfl | (simp only [firstArgMember]; rfl)) ?_)
  refine wpAny_newObj_type ?_ (by size_fits)
  simp only [raiseNew]
  refine wpAny_bind (wpAny_handled ?_)
  first | rw [show A.in1.handled = none from hh] | rw [hh]
  refine wpAny_bind (wpAny_pure (wpAny_throw ?_))
  refine hE _ _ (((Heap.SameBut.update ..).extBut.push _).push _) ⟨_, Heap.get?_push_of_some _ (Heap.get?_push_of_some _ (Heap.get?_update_self _ ho (Obj.isFreed_of_fields (Obj.data_mapFields hd _))))⟩ ⟨_, Heap.get?_push_size _ rfl, rfl⟩
theorem enum_end {x : PySem.Str} {tx : Tok} {p : Nat} {old : Value} {Q : Option Value → Shared → Prop} {Er : Value → Shared → Prop} (F : Fm w B L cl s₀ m cm ((E, enumO S p old) :: (S, oS) :: more) ⟨h, g, d₀, tk₀, os⟩) (hh : A.handled = none) (ho : SiO x tx p oS) (hc : x.cps.size = p)
    (q : ∀ h' oS', Fm w B L cl s₀ m cm ((E, enumO S p old) :: (S, oS') :: more) ⟨h', g, d, tk, os⟩ → Q none ⟨h', g, d, tk, os⟩) : wpAny (M w) A (pyNext (.ref E)) Q Er ⟨h, g, d, tk, os⟩ := by
  have he : IsEnum h E S (p : Nat) old := F.at 0 rfl
  have hnd := F.nd
  simp only [List.map_cons, List.nodup_cons, List.mem_cons, not_or] at hnd
  have hT : (⟨h, g, d, tk, os⟩ : Shared).TypeIs (.ref E) "enumerate" := ⟨_, he, rfl⟩
  unfold pyNext
  refine wpAny_bind (wpAny_attempt (wpAny_callSpecial?_slot (name := Str.ofString "__next__") hT PySem.F.slot_enumerate_next
    (wpAny_call_entry PySem.F.slot_enumerate_next hT PySem.F.entry_enumerate_next ?_ (PySem.F.args_enumerate_next_1 _))))
  show wpAny _ _ (field (.ref E) 2 >>= _) _ _ _
  refine wpAny_bind (wpAny_field he rfl (x := .ref S) rfl ?_)
  refine wpAny_bind (ascii_end (s := ⟨h, g, d, tk, os⟩) (A := A.in1) hh ⟨oS, F.at 1 rfl, ho⟩ (by rw [← hc]; simp) fun h' xx he' hx2 hx' => ?_)
  (refine x1_2 (hx') ?_; try clear hx'; intro o ho' hc')
  obtain ⟨oS', hS'⟩ := hx2
  refine wpAny_bind (wpAny_isInstance (T := "StopIteration") (b := true) ⟨o, ho', hc'⟩ isSubtype_stop ?_)
  refine wpAny_pure (q _ oS' (Fm.set2 F (fun b ob h1 h2 e => he' b ob h2 e) (he' _ _ hnd.1.1 he) hS'))
end
noncomputable def NsO (o : Obj) (m : PySem.Str → Option Value) : Prop := ∃ es ep, o.data = .dict es ep ∧ StrKeys es ∧ ∀ name, nsFind es name = m name
theorem ns_of {h : Heap} {a : Addr} {m : PySem.Str → Option Value} (x : h.Ns a m) : ∃ o, h.get? a = some o ∧ NsO o m := let ⟨o, es, ep, e, r⟩ := x; ⟨o, e, es, ep, r⟩
theorem NsO.at {h : Heap} {a : Addr} {o : Obj} {m : PySem.Str → Option Value} (x : NsO o m) (e : h.get? a = some o) : h.Ns a m := let ⟨es, ep, r⟩ := x; ⟨o, es, ep, e, r⟩
noncomputable abbrev Bg (Lg E S : Addr) (h : Heap) : Heap := hideAll h [T1, T2, Lg, E, S]
section
variable {w : World} {B : Heap} {L Lg E S I : Addr} {m mG : PySem.Str → Option Value} {cm : PySem.Str → Option Value} {rest news own own' : List (Addr × Obj)} {s₀ s s₁ : Shared} {oL oL' oI : Obj}
/-- the generator's frame, seen from its own side -/
theorem Fm.toGen (F : Fm w B L [] s₀ m cm news s) (hm : (Lg, oL) ∈ news) (hN : NsO oL mG) (hE : B.get? E = none) (hS : B.get? S = none) (hown : ∀ p ∈ own, p ∈ news ∧ (p.1 = E ∨ p.1 = S) ∧ p.1 ≠ Lg) (hnd : (own.map (·.1)).Nodup) :
    Fm w (Bg Lg E S s.heap) Lg [] s mG (fun _ => none) own s := by
  (refine x0_4 (F.nw _ hm) ?_; intro a1 a2 a3 a4)
  have kB : ∀ b o, B.get? b = some o → (Bg Lg E S s.heap).get? b = some o := fun b o e => by
    refine hideAll_get _ (F.keep b o e) fun q => ?_
    simp only [List.mem_cons, List.not_mem_nil, or_false] at q
    rcases q with q | q | q | q | q
    · rw [q, F.wf.t1] at e; cases e
    · rw [q, F.wf.t2] at e; cases e
    · rw [q, a3] at e; cases e
    · rw [q, hE] at e; cases e
    · rw [q, hS] at e; cases e
  exact {
    wf := { k := fun a o e => kB a o (F.wf.k a o e), g := let ⟨mg, h⟩ := F.wf.g; ⟨mg, h.keeps kB⟩, b := let ⟨mb, h, r⟩ := F.wf.b; ⟨mb, h.keeps kB, r⟩, nl := F.wf.nl.keeps kB,
            bm := let ⟨mg, bm, ob, a, b, c, d, e⟩ := F.wf.bm; ⟨mg, bm, ob, a.keeps kB, b, c, kB _ _ d, e⟩,
            sz := by show szTop ≤ (hideAll s.heap _).objs.size; rw [hideAll_size]; exact Nat.le_trans F.szL (Nat.le_of_lt F.ns.lt)
            t1 := hideAll_none _ (.head _), t2 := hideAll_none _ (.tail _ (.head _)) }
    ns := hN.at a1
    keep := fun b o e => of_hideAll _ e
    above := ⟨hideAll_none _ (.tail _ (.tail _ (.head _))), a4⟩
    nw := fun p hp => by
      (refine x0_3 (hown p hp) ?_; intro h1 h2 h3)
      (refine x0_4 (F.nw p h1) ?_; intro b1 b2 b3 b4)
      refine ⟨b1, h3, ?_, b4⟩
      rcases h2 with h2 | h2
      · rw [h2]; exact hideAll_none _ (.tail _ (.tail _ (.tail _ (.head _))))
      · rw [h2]; exact hideAll_none _ (.tail _ (.tail _ (.tail _ (.tail _ (.head _)))))
    nd := hnd
    ce := fun n c e => by cases e
    cd := fun n c e => by cases e
    cp := fun n n' c e => by cases e
    tb := F.tb
    rl := Rel.refl s }
/-- and back -/
theorem Fm.fromGen (F : Fm w B L [] s₀ m cm news s) (G : Fm w (Bg Lg E S s.heap) Lg [] s mG (fun _ => none) own s₁) (hperm : news.Perm ((Lg, oL) :: own' ++ rest)) (ho : ∀ p ∈ rest, p.1 ≠ E ∧ p.1 ≠ S) (hE : B.get? E = none) (hS : B.get? S = none) (hEL : E ≠ L) (hSL : S ≠ L) :
    ∃ oL', NsO oL' mG ∧ Fm w B L [] s₀ m cm ((Lg, oL') :: own ++ rest) s₁ := by
  have F := F.perm hperm
  have hm : (Lg, oL) ∈ (Lg, oL) :: own' ++ rest := .head _
  (refine x0_4 (F.nw _ hm) ?_; intro a1 a2 a3 a4)
  have hndF := F.nd
  rw [List.cons_append, List.map_cons, List.nodup_cons, List.map_append, List.nodup_append] at hndF
  (refine x1_2 (ns_of G.ns) ?_; intro oL' hL' hN')
  refine ⟨oL', hN', ?_⟩
  have big : ∀ b, szTop ≤ b → b ≠ Lg → b ≠ E → b ≠ S → b ∉ [T1, T2, Lg, E, S] := fun b hb h1 h2 h3 q => by
    simp only [List.mem_cons, List.not_mem_nil, or_false] at q
    rcases q with q | q | q | q | q
    · exact tab_ne (.inl rfl) hb q
    · exact tab_ne (.inr rfl) hb q
    · exact h1 q
    · exact h2 q
    · exact h3 q
  have kB : ∀ b o, B.get? b = some o → (Bg Lg E S s.heap).get? b = some o := fun b o e => by
    refine hideAll_get _ (F.keep b o e) fun q => ?_
    simp only [List.mem_cons, List.not_mem_nil, or_false] at q
    rcases q with q | q | q | q | q
    · rw [q, F.wf.t1] at e; cases e
    · rw [q, F.wf.t2] at e; cases e
    · rw [q, a3] at e; cases e
    · rw [q, hE] at e; cases e
    · rw [q, hS] at e; cases e
  have kr : ∀ p ∈ rest, (Bg Lg E S s.heap).get? p.1 = some p.2 := fun p hp => by
    (refine x0_4 (F.nw p (by simp [hp])) ?_; intro b1 b2 b3 b4)
    exact hideAll_get _ b1 (big _ b4 (fun q => hndF.1 (List.mem_append_right _ (List.mem_map.mpr ⟨p, hp, q⟩))) (ho p hp).1 (ho p hp).2)
  have nr : ∀ p ∈ own, p.1 ∉ rest.map (·.1) := fun p hp q => by
    (refine x1_2 (List.mem_map.mp q) ?_; intro r hr e)
    have := (G.nw p hp).2.2.1
    rw [← e, kr r hr] at this; cases this
  (refine x1_2 (ns_of F.ns) ?_; intro oF hF hNF)
  have kL : (Bg Lg E S s.heap).get? L = some oF := hideAll_get _ hF (big _ F.szL a2.symm hEL.symm hSL.symm)
  exact {
    wf := F.wf
    ns := hNF.at (G.keep _ _ kL)
    keep := fun b o e => G.keep b o (kB b o e)
    above := F.above
    nw := fun p hp => by
      rcases List.mem_cons.mp hp with rfl | hp
      · exact ⟨hL', a2, a3, a4⟩
      · rcases List.mem_append.mp hp with hp | hp
        · (refine x0_4 (G.nw p hp) ?_; intro b1 b2 b3 b4)
          refine ⟨b1, fun q => ?_, ?_, b4⟩
          · rw [q, kL] at b3; cases b3
          · cases q : B.get? p.1 with
            | none => rfl
            | some o => rw [kB _ _ q] at b3; cases b3
        · (refine x0_4 (F.nw p (by simp [hp])) ?_; intro b1 b2 b3 b4)
          exact ⟨G.keep _ _ (kr p hp), b2, b3, b4⟩
    nd := by
      rw [List.cons_append, List.map_cons, List.nodup_cons, List.map_append, List.nodup_append]
      refine ⟨fun q => ?_, G.nd, hndF.2.2.1, fun x hx y hy e => ?_⟩
      · rcases List.mem_append.mp q with q | q
        · (refine x1_2 (List.mem_map.mp q) ?_; intro r hr e)
          exact (G.nw r hr).2.1 e
        · exact hndF.1 (List.mem_append_right _ q)
      · (refine x1_2 (List.mem_map.mp hx) ?_; intro r hr e')
        exact nr r hr (by rw [e', e]; exact hy)
    ce := fun n c e => by cases e
    cd := fun n c e => by cases e
    cp := fun n n' c e => by cases e
    tb := G.tb
    rl := F.rl.trans G.rl }
theorem Fm.gset (F : Fm w B L [] s₀ m cm news s) {g : Nat} (hg : s₀.gens.size ≤ g) {x : GenState} (hx : x.bare = true) : Fm w B L [] s₀ m cm news (s.setGen g x) := by
  refine { F with rl := ⟨F.rl.os, fun k y e => ?_, fun hb => ?_, F.rl.tg, trivial⟩ }
  · have hk : k < s₀.gens.size := (Array.getElem?_eq_some_iff.mp e).1
    have := F.rl.gens k y e
    have h2 := (GenOnly.setGen s g x).2 k (by ktn_no "om")
    rw [h2]; exact this
  · refine GenOnlyQ.bare (.inr ⟨GenOnly.setGen s g x, fun z hz => ?_⟩) (F.rl.bare hb)
    simp only [Shared.setGen, Array.getElem?_setIfInBounds] at hz
    split at hz
    · split at hz
      · cases hz; exact hx
      · cases hz
    · rename_i q; exact absurd trivial q
theorem Fm.rebase (F : Fm w B L [] s₀ m cm news s) : Fm w B L [] s m cm news s := { F with rl := Rel.refl s }
theorem Fm.unbase (F : Fm w B L [] s m cm news s₁) (r : Rel s₀ s) : Fm w B L [] s₀ m cm news s₁ := { F with rl := r.trans F.rl }
end
noncomputable def forParts : Stmt → Expr × Expr × List Stmt × List Stmt × Pos
  | .For t i b o p => (t, i, b, o, p)
  | _ => (default, default, [], [], default)
noncomputable abbrev itFor : Stmt := body_iter_escaped_chars.getD 2 default
noncomputable abbrev itT : Expr := (forParts itFor).1
noncomputable abbrev itB : List Stmt := (forParts itFor).2.2.1
noncomputable abbrev itIf : Stmt := body_iter_escaped_chars.getD 3 default
noncomputable abbrev gEnv (Lg : Addr) : Env := callEnv fd_iter_escaped_chars Lg a_iter_escaped_chars
noncomputable abbrev noC : PySem.Str → Option Value := fun _ => none
noncomputable def PG (w : World) (Lg E S : Addr) : Nat → Shared → Shared → Prop := fun n s₀ s₁ => n = 0 ∧ ∃ mG oE oS, Fm w (Bg Lg E S s₀.heap) Lg [] s₀ mG noC [(E, oE), (S, oS)] s₁
noncomputable abbrev RG (w : World) (Lg E S : Addr) : GenEnd := fun n s₀ r s₁ => r = .ok (.ret .none) ∧ PG w Lg E S n s₀ s₁
noncomputable def YG (w : World) (Lg E S : Addr) (U : List (Nat × PySem.Str)) : Protocol := fun n s₀ v s₁ kap => ∃ mG oE oS q a b t1 t2, U[U.length - 1 - n]? = some (a, b) ∧ v = .ref q ∧
  Fm w (Bg Lg E S s₀.heap) Lg [] s₀ mG noC [(q, tupO [.int (a : Nat) t1, .str b t2]), (E, oE), (S, oS)] s₁ ∧
  ∀ s'', Fm w (Bg Lg E S s''.heap) Lg [] s'' mG noC [(E, oE), (S, oS)] s'' → kap (.send .none) s''
section
variable {w : World} {A : Around} {Lg E S : Addr} {x : PySem.Str} {tx : Tok} {U : List (Nat × PySem.Str)}
theorem U_get {pre : List (Nat × PySem.Str)} {y : Nat × PySem.Str} {r : List (Nat × PySem.Str)} (h : U = pre ++ y :: r) : U[U.length - 1 - r.length]? = some y := by
  subst h
  have : (pre ++ y :: r).length - 1 - r.length = pre.length := by simp
  rw [this]; simp
theorem U_next {pre : List (Nat × PySem.Str)} {y : Nat × PySem.Str} {r : List (Nat × PySem.Str)} (h : U = pre ++ y :: r) : U = (pre ++ [y]) ++ r := by rw [h]; simp
noncomputable def Left (x : PySem.Str) (p : Nat) (r : List Nat) : Prop := x.cps.toList.drop p = r ∧ (x.cps.size = p + r.length)
theorem drop_cons {p c : Nat} {r : List Nat} (h : Left x p (c :: r)) : x.cps[p]? = some c ∧ Left x (p + 1) r := by
  obtain ⟨h1, h2⟩ := h
  refine ⟨?_, ?_, by simp at h2; (first | lia | omega)⟩
  · have : x.cps.toList[p]? = some c := by
      have := congrArg (fun l => l[0]?) h1
      simpa using this
    simpa using this
  · rw [← List.drop_drop, h1]; rfl
theorem seg_loop {p0 : Pos} {kf : Result → Sem PySem.Fin} (hA : ∀ c k c' p, (A.over c [.ret k none false [] c' p []]).handled = none)
    (hend : ∀ (e : Bool) (last : Nat) (s₀ s : Shared) (mG : PySem.Str → Option Value) (tl : Tok) (c : Code) (pre : List (Nat × PySem.Str)) (oE oS : Obj), Fm w (Bg Lg E S s₀.heap) Lg [] s₀ mG noC [(E, oE), (S, oS)] s → mG "escape" = some (.bool e) → mG "pos" = some (.int (last : Nat) tl) → U = pre ++ esc [] 0 e last →
      Seg (M w) A (RG w Lg E S) (YG w Lg E S U) (esc [] 0 e last).length s₀ c (leafOf (.ok .next)) [.ret kf none false [] (.func body_iter_escaped_chars (gEnv Lg)) p0 []] s) :
    ∀ (r : List Nat) (p : Nat) (e : Bool) (last : Nat) (s₀ s : Shared) (mG : PySem.Str → Option Value) (old : Value) (oS : Obj) (tl : Tok) (pre : List (Nat × PySem.Str)), Left x p r → Fm w (Bg Lg E S s₀.heap) Lg [] s₀ mG noC [(E, enumO S p old), (S, oS)] s → SiO x tx p oS →
      mG "escape" = some (.bool e) → mG "pos" = some (.int (last : Nat) tl) → U = pre ++ esc r p e last →
      Seg (M w) A (RG w Lg E S) (YG w Lg E S U) (esc r p e last).length s₀ (.forLoop itT (.ref E) itB [] (gEnv Lg)) ((M w).den (.forLoop itT (.ref E) itB [] (gEnv Lg))) [.ret kf none false [] (.func body_iter_escaped_chars (gEnv Lg)) p0 []] s
  | [], p, e, last, s₀, s, mG, old, oS, tl, pre, hr, F, ho, he, hp, hU => by
    obtain ⟨h, g, d, tk, os⟩ := s
    refine seg_forLoop ?_
    have hsz : x.cps.size = p := hr.2
    refine enum_end F (hA _ _ _ _) ho hsz fun h' oS' F' => ?_
    exact hend e last s₀ _ mG tl _ pre _ _ F' he hp hU
  | c :: r, p, e, last, s₀, s, mG, old, oS, tl, pre, hr, F, ho, he, hp, hU => by
    obtain ⟨h, g, d, tk, os⟩ := s
    refine seg_forLoop ?_
    obtain ⟨hc, hr'⟩ := drop_cons hr
    refine enum_next F (hA _ _ _ _) ho hc fun h₁ k₁ t1 t2 oS₁ ho₁ F₁ => ?_
    dsimp only
    refine enum_go F₁ fun h₂ F₂ => ?_
    refine assign_pair F₂ (hA _ _ _ _) (F₂.at 0 rfl) rfl (by kernel_rfl) (by kernel_rfl) (by kernel_rfl) fun h₃ k₃ F₃ => ?_
    have F₄ := F₃.drop 1
    dsimp only [List.drop] at F₄
    clear F F₁ F₂ F₃
    ktn_no "ast_seg"
    refine seg_execs_cons (seg_If ?_)
    ktn_no "x"
    cases e with
    | true =>
      have eU : esc (c :: r) p true last = (p, ⟨#[92, c]⟩) :: esc r (p + 1) false p := rfl
      rw [eU] at hU ⊢
      rw [if_pos rfl]
      refine seg_execs_cons (seg_Expr_Yield rfl rfl rfl ?_)
      ktn_no "x"
      refine add_str (fun t' k' => ?_) (by show (1 : Nat) + 1 ≤ sizeLine; decide)
      ktn_no "x"
      refine st_newTuple (by simp) ?_
      intro kap hk
      have F₅ := F₄.push1 (d := d) (tk := k') (tupO [.int (p : Nat) t1, .str (Str.ofString "\\" ++ ⟨#[c]⟩) t'])
      refine ⟨_, _, _, _, p, ⟨#[92, c]⟩, t1, t', U_get hU, rfl, F₅, fun s'' F₆ => hk _ _ ?_⟩
      dsimp only
      obtain ⟨h₆, g₆, d₆, k₆, o₆⟩ := s''
      refine seg_quiet ?_
      ktn_no "x"
      rename_i h₇ F₇
      refine seg_execs_nil (seg_execs_nil (seg_again rfl ?_))
      exact seg_loop hA hend r (p + 1) false p _ _ _ _ _ _ _ hr' F₇ ho₁ (by ktn_no "k_val") (by ktn_no "k_val") (U_next hU)
    | false =>
      rw [if_neg (by decide)]
      refine seg_execs_cons (seg_If ?_)
      ktn_no "x"
      refine eq_str ?_
      ktn_no "x"
      by_cases hcc : c = 92
      · subst hcc
        have eU : esc (92 :: r) p false last = esc r (p + 1) true p := by simp [esc]
        rw [eU] at hU ⊢
        rw [if_pos (by decide)]
        refine seg_quiet ?_
        ktn_no "x"
        rename_i h₇ F₇
        refine seg_execs_nil (seg_execs_nil (seg_execs_nil (seg_again rfl ?_)))
        exact seg_loop hA hend r (p + 1) true p _ _ _ _ _ _ _ hr' F₇ ho₁ (by ktn_no "k_val") (by ktn_no "k_val") hU
      · have eU : esc (c :: r) p false last = (p, ⟨#[c]⟩) :: esc r (p + 1) false p := by simp [esc, hcc]
        rw [eU] at hU ⊢
        rw [if_neg (by intro z; have z := eq_of_beq z; rw [show (Str.ofString "\\" : PySem.Str) = ⟨#[92]⟩ by decide] at z; exact hcc (by simpa using z))]
        refine seg_execs_cons (seg_Expr_Yield rfl rfl rfl ?_)
        ktn_no "x"
        refine st_newTuple (by simp) ?_
        intro kap hk
        have F₅ := F₄.push1 (d := d) (tk := k₃ + 1) (tupO [.int (p : Nat) t1, .str ⟨#[c]⟩ t2])
        refine ⟨_, _, _, _, p, ⟨#[c]⟩, t1, t2, U_get hU, rfl, F₅, fun s'' F₆ => hk _ _ ?_⟩
        dsimp only
        obtain ⟨h₆, g₆, d₆, k₆, o₆⟩ := s''
        refine seg_execs_nil (seg_execs_nil (seg_execs_nil (seg_again rfl ?_)))
        exact seg_loop hA hend r (p + 1) false p _ _ _ _ _ _ _ hr' F₆ ho₁ (by ktn_no "k_val") (by ktn_no "k_val") (U_next hU)
end
section
variable {w : World} {B : Heap} {L : Addr} {m : PySem.Str → Option Value} {cl : List (PySem.Str × Addr)} {cm : PySem.Str → Option Value} {more : List (Addr × Obj)} {s₀ s : Shared} {A : Around} {E : Value → Shared → Prop}
  {h : Heap} {g g₀ : Array GenState} {d d₀ : Drawn} {tk tk₀ : Nat} {os os₀ : OsState} {env : Env} {x : PySem.Str} {v : Value}
theorem st_Lz {Q : Unit → Shared → Prop} (F : Fm w B L cl s₀ m cm more ⟨h, g, d₀, tk₀, os⟩) (hk : env.scope.kind = .function) (hx : env.kindOf x = some .local) (hL : env.locals = L)
    (q : ∀ h', h'.objs.size = h.objs.size → Fm w B L cl s₀ (upd m x v) cm more ⟨h', g, d, tk + 1, os⟩ → Q () ⟨h', g, d, tk + 1, os⟩) : wpAny (M w) A (storeName env x v) Q E ⟨h, g, d, tk, os⟩ := by
  subst hL
  exact wpAny_storeName_local hx F.ns (fun h' hn hs => q h' hs.1 (Fm.store (s := ⟨h, g, d, tk, os⟩) (F.withD (d := d) (tk := tk)) hn hs)) (by rw [hk]; rfl)
theorem Fm.add {a : Addr} {o : Obj} (F : Fm w B L [] s₀ m cm more s) (hx : s.heap.get? a = some o) (h1 : a ≠ L) (h2 : B.get? a = none) (h3 : szTop ≤ a) (h4 : a ∉ more.map (·.1)) : Fm w B L [] s₀ m cm ((a, o) :: more) s :=
  { F with
    nw := fun p hp => by
      rcases List.mem_cons.mp hp with rfl | hp
      · exact ⟨hx, h1, h2, h3⟩
      · exact F.nw p hp
    nd := List.nodup_cons.mpr ⟨h4, F.nd⟩
    ce := fun n c e => by cases e
    cd := fun n c e => by cases e }
theorem Fm.fresh {a : Addr} (F : Fm w B L [] s₀ m cm more s) (ha : s.heap.objs.size ≤ a) : a ≠ L ∧ B.get? a = none ∧ szTop ≤ a ∧ a ∉ more.map (·.1) := by
  refine ⟨fun e => absurd F.ns.lt (by rw [← e]; exact Nat.not_lt.mpr ha), ?_, Nat.le_trans (Nat.le_trans F.szL (Nat.le_of_lt F.ns.lt)) ha, fun q => ?_⟩
  · cases q : B.get? a with
    | none => rfl
    | some o => exact absurd (Heap.lt_size (F.keep _ _ q)) (Nat.not_lt.mpr ha)
  · (refine x1_2 (List.mem_map.mp q) ?_; intro p hp e)
    exact absurd (Heap.lt_size (F.nw p hp).1) (by rw [e]; exact Nat.not_lt.mpr ha)
theorem enum_make {tx : Tok} {Q : Value → Shared → Prop} (F : Fm w B L [] s₀ m cm more ⟨h, g, d₀, tk₀, os⟩) (ha : x.cps.all (· < 128) = true)
    (q : ∀ h' oS, SiO x tx 0 oS → Fm w B L [] s₀ m cm ((h.objs.size + 1, enumO h.objs.size ((0 : Nat) : Int) .none) :: (h.objs.size, oS) :: more) ⟨h', g, d, tk, os⟩ → Q (.ref (h.objs.size + 1)) ⟨h', g, d, tk, os⟩) :
    wpAny (M w) A (call (.type "enumerate") [.str x tx]) Q E ⟨h, g, d, tk, os⟩ := by
  refine call_enumerate_str (s := ⟨h, g, d, tk, os⟩) fun h' hE hS hz hk => ?_
  (refine x1_2 (hS) ?_; try clear hS; intro oS hS1 hS2)
  have hty : strIterType x = "str_ascii_iterator" := by simp [strIterType, ha]
  rw [hty] at hS2
  have F₁ := Fm.keepAll (d := d) (tk := tk) F hk
  (refine x0_4 (Fm.fresh (a := h.objs.size) F (Nat.le_refl _)) ?_; intro a1 a2 a3 a4)
  (refine x0_4 (Fm.fresh (a := h.objs.size + 1) F (Nat.le_succ _)) ?_; intro b1 b2 b3 b4)
  have F₂ := Fm.add F₁ hS1 a1 a2 a3 a4
  refine q h' oS hS2 (Fm.add F₂ hE b1 b2 b3 ?_)
  rw [List.map_cons, List.mem_cons, not_or]
  exact ⟨Nat.succ_ne_self _, b4⟩
end
section
variable {w : World} {A : Around} {Lg E S : Addr} {x : PySem.Str} {tx : Tok} {U : List (Nat × PySem.Str)}
theorem seg_start (hA : ∀ c k c' p, (A.over c [.ret k none false [] c' p []]).handled = none) {h : Heap} {g : Array GenState} {d : Drawn} {tk : Nat} {os : OsState} {mG : PySem.Str → Option Value} (ha : x.cps.all (· < 128) = true) (hm : mG "addr" = some (.str x tx)) (hE : E = h.objs.size + 1) (hS : S = h.objs.size)
    (F : Fm w (Bg Lg E S h) Lg [] ⟨h, g, d, tk, os⟩ mG noC [] ⟨h, g, d, tk, os⟩) :
    Seg (M w) A (RG w Lg E S) (YG w Lg E S (units x)) (units x).length ⟨h, g, d, tk, os⟩ (.func body_iter_escaped_chars (gEnv Lg)) ((M w).den (.func body_iter_escaped_chars (gEnv Lg))) [] ⟨h, g, d, tk, os⟩ := by
  refine seg_func ?_
  ktn_no "ast_seg"
  refine seg_quiet (wpAny_Assign_Name (wpAny_Constant_int ?_) (by kernel_rfl))
  refine st_Lz F (by kernel_rfl) (by kernel_rfl!) (by kernel_rfl) fun h₁ hz₁ F₁ => ?_
  dsimp only
  refine seg_quiet (wpAny_Assign_Name (Constant_bool ?_) (by kernel_rfl))
  refine st_Lz F₁ (by kernel_rfl) (by kernel_rfl!) (by kernel_rfl) fun h₂ hz₂ F₂ => ?_
  dsimp only
  refine seg_execs_cons (seg_For (fun x => rfl) ?_)
  ktn_no "x"
  refine enum_make F₂ ha fun h₃ oS hoS F₃ => ?_
  rw [hz₂, hz₁, ← hE, ← hS] at F₃
  rw [hz₂, hz₁, ← hE]
  refine wpAny_pyIter_enum (F₃.at 0 rfl) fun p0 => ?_
  refine seg_loop hA ?_ x.cps.toList 0 false 0 _ _ _ _ _ _ [] ⟨rfl, by simp⟩ F₃ hoS (by ktn_no "k_val") (by ktn_no "k_val") rfl
  intro e last s₀ s mG' tl c pre oE' oS' F' he hp hU
  refine seg_leaf (.ok .next) ?_
  obtain ⟨h', g', d', k', o'⟩ := s
  show Seg _ _ _ _ _ _ _ (Sem.wrap (fun f => Sem.pure (Fin.done (Flow.ret (match f with | .ret v => v | _ => Value.none)))) (fun e => Sem.wrap (fun _ => Sem.raise e) Sem.raise id id (leaving (gEnv Lg) e)) id id (execs [itIf] (gEnv Lg))) _ _
  ktn_no "ast_seg"
  refine seg_execs_cons (seg_If ?_)
  ktn_no "x"
  cases e with
  | true =>
    rw [if_pos rfl]
    show Seg (M w) A (RG w Lg E S) (YG w Lg E S (units x)) 1 _ _ _ _ _
    refine seg_execs_cons (seg_Expr_Yield rfl rfl rfl ?_)
    ktn_no "x"
    refine st_newTuple (by simp) ?_
    intro kap hk
    have F₅ := F'.push1 (d := d') (tk := k' + 1) (tupO [.int (last : Nat) tl, .str (Str.ofString "\\") k'])
    refine ⟨_, _, _, _, last, ⟨#[92]⟩, tl, k', U_get (r := []) hU, rfl, F₅, fun s'' F₆ => hk _ _ ?_⟩
    exact seg_execs_nil (seg_execs_nil (seg_end (.ok (.ret .none)) ⟨rfl, rfl, _, _, _, F₆⟩))
  | false =>
    rw [if_neg (by decide)]
    exact seg_execs_nil (seg_execs_nil (seg_end (.ok (.ret .none)) ⟨rfl, rfl, _, _, _, F'⟩))
end
noncomputable def GenO (o : Obj) (g : Nat) : Prop := ∃ nm qn, o.cls = .type "generator" ∧ o.data = .fields #[.int g 0, nm, qn] ∧ o.slots = #[]
/-- a generator that has yet to give us -/
inductive GenSt (w : World) (A : Around) : List (Nat × PySem.Str) → Addr → Nat → List (Addr × Obj) → GenState → Prop
  | fresh {x : PySem.Str} {tx : Tok} {I Lg : Addr} {g : Nat} {oI oL : Obj} {mG : PySem.Str → Option Value} : GenO oI g → NsO oL mG → mG "addr" = some (.str x tx) → x.cps.all (· < 128) = true → GenSt w A (units x) I g [(I, oI), (Lg, oL)] (.fresh (.func body_iter_escaped_chars (gEnv Lg)))
  | susp {us U pre : List (Nat × PySem.Str)} {I Lg E S : Addr} {g : Nat} {oI oL oE oS : Obj} {mG : PySem.Str → Option Value} {gs : GenState} : GenO oI g → NsO oL mG → U = pre ++ us →
      (∀ s'', Fm w (Bg Lg E S s''.heap) Lg [] s'' mG noC [(E, oE), (S, oS)] s'' → gs.Goes (M w) A.in1 (RG w Lg E S) (YG w Lg E S U) us.length (.send .none) s'') → GenSt w A us I g [(I, oI), (Lg, oL), (E, oE), (S, oS)] gs
section
variable {w : World} {B : Heap} {L I : Addr} {m : PySem.Str → Option Value} {cm : PySem.Str → Option Value} {own rest : List (Addr × Obj)} {s₀ s : Shared} {A : Around} {E : Value → Shared → Prop} {g n : Nat} {gs : GenState} {us : List (Nat × PySem.Str)} {Q : Option Value → Shared → Prop}
noncomputable def GenQ (w : World) (B : Heap) (L : Addr) (m : PySem.Str → Option Value) (cm : PySem.Str → Option Value) (rest : List (Addr × Obj)) (s₀ : Shared) (A : Around) (I : Addr) (g : Nat) (Q : Option Value → Shared → Prop) : List (Nat × PySem.Str) → Prop
  | [] => ∀ s', Fm w B L [] s₀ m cm rest s' → Q none s'
  | (a, b) :: us' => ∀ T t1 t2 own' gs' s', GenSt w A us' I g own' gs' → Fm w B L [] s₀ m cm ((T, tupO [.int (a : Nat) t1, .str b t2]) :: own' ++ rest) s' → s'.gens[g]? = some gs' → Q (some (.ref T)) s'
variable {Lg e S : Addr} {oI oL : Obj} {mG : PySem.Str → Option Value} {U pre : List (Nat × PySem.Str)} {own0 : List (Addr × Obj)}
theorem yield_done {v : Value} {s₁ : Shared} {gs' : GenState} (F : Fm w B L [] s₀ m cm ((Lg, oL) :: own0 ++ ((I, oI) :: rest)) (s.setGen g .running)) (hI : GenO oI g) (hg : s.gens[g]? = some gs) (hs₀ : s₀.gens.size ≤ g) (hE : B.get? e = none) (hS : B.get? S = none) (hEL : e ≠ L) (hSL : S ≠ L)
    (hr : ∀ p ∈ (I, oI) :: rest, p.1 ≠ e ∧ p.1 ≠ S) (hU : U = pre ++ us) (hb : gs'.bare = true)
    (hY : YG w Lg e S U (us.length - 1) (s.setGen g .running) v s₁ (fun r' s'' => match us.length with | 0 => False | k + 1 => gs'.Goes (M w) A.in1 (RG w Lg e S) (YG w Lg e S U) k r' s''))
    (q : GenQ w B L m cm rest s₀ A I g Q us) : Q (some v) (s₁.setGen g gs') := by
  (refine x8_4 (hY) ?_; try clear hY; intro mG' oE oS qT a b t1 t2 hget eqX9 G hk; subst eqX9)
  (refine x1_2 (Fm.fromGen F G (.refl _) hr hE hS hEL hSL) ?_; intro oL' hN' F₁)
  have hrun : s₁.gens[g]? = some .running := G.rl.gens _ _ (setGen_self hg)
  have F₂ := Fm.gset F₁ hs₀ hb
  have hg' := setGen_self (x := gs') hrun
  have hndG := G.nd
  simp only [List.map_cons, List.nodup_cons, List.mem_cons, not_or, List.map_nil, List.not_mem_nil, not_false_eq_true, and_true, List.nodup_nil] at hndG
  subst hU
  cases us with
  | nil =>
    refine (hk s₁ (Fm.toGen (oL := oL') F₁ (.head _) hN' hE hS (fun p hp => ?_) ?_)).elim
    · simp only [List.mem_cons, List.not_mem_nil, or_false] at hp
      rcases hp with rfl | rfl
      · exact ⟨by simp, .inl rfl, (G.nw (e, oE) (by simp)).2.1⟩
      · exact ⟨by simp, .inr rfl, (G.nw (S, oS) (by simp)).2.1⟩
    · simp only [List.map_cons, List.map_nil, List.nodup_cons, List.mem_cons, List.not_mem_nil, or_false, not_false_eq_true, and_true, List.nodup_nil]
      exact hndG.2
  | cons y us' =>
    obtain ⟨a', b'⟩ := y
    have := U_get (U := pre ++ (a', b') :: us') (pre := pre) (y := (a', b')) (r := us') rfl
    simp only [List.length_cons, Nat.add_sub_cancel] at hget hk
    rw [this] at hget
    cases hget
    refine q qT t1 t2 _ _ _ (GenSt.susp (oE := oE) (oS := oS) (pre := pre ++ [(a, b)]) hI hN' (by simp) hk) (F₂.perm ?_) hg'
    simp only [List.cons_append, List.nil_append]; ktn_no "perm_tac"
theorem end_done {s₁ : Shared} {h' : Heap} (F : Fm w B L [] s₀ m cm ((Lg, oL) :: own0 ++ ((I, oI) :: rest)) (s.setGen g .running)) (hs₀ : s₀.gens.size ≤ g) (hE : B.get? e = none) (hS : B.get? S = none) (hEL : e ≠ L) (hSL : S ≠ L)
    (hr : ∀ p ∈ (I, oI) :: rest, p.1 ≠ e ∧ p.1 ≠ S) {n : Nat} (hP : PG w Lg e S n (s.setGen g .running) s₁) (hk : ∀ b o, s₁.heap.get? b = some o → h'.get? b = some o) :
    Fm w B L [] s₀ m cm rest { s₁.setGen g .finished with heap := h' } := by
  (refine y3_1 (hP) ?_; try clear hP; intro _ mG' oE oS G)
  (refine x1_2 (Fm.fromGen F G (.refl _) hr hE hS hEL hSL) ?_; intro oL' hN' F₁)
  have F₂ := Fm.gset F₁ hs₀ (x := .finished) rfl
  exact (Fm.keepAll (d := s₁.drawn) (tk := s₁.toks) F₂ hk).drop 4
theorem gen_next (R : Room (n + 1) A) (F : Fm w B L [] s₀ m cm (own ++ rest) s) (hst : GenSt w A us I g own gs) (hg : s.gens[g]? = some gs) (hs₀ : s₀.gens.size ≤ g)
    (q : GenQ w B L m cm rest s₀ A I g Q us) : wpAny (M w) A (pyNext (.ref I)) Q E s := by
  have hA : ∀ c k c' p, (A.in1.over c [.ret k none false [] c' p []]).handled = none := fun c k c' p => by
    show (marksOver [.ret k none false [] c' p []] (A.handled, A.handled)).1 = none
    rw [R.handled]; rfl
  have Fr := F.gset hs₀ (x := .running) rfl
  cases hst with
  | @fresh x tx I Lg g oI oL mG hI hN hm ha =>
    have hI' := hI
    (refine x2_3 (hI') ?_; try clear hI'; intro nm qn c1 c2 c3)
    (refine x0_4 (Fm.fresh (a := s.heap.objs.size + 1) F (Nat.le_succ _)) ?_; intro e1 e2 e3 e4)
    (refine x0_4 (Fm.fresh (a := s.heap.objs.size) F (Nat.le_refl _)) ?_; intro f1 f2 f3 f4)
    have Ft : Fm w (Bg Lg (s.heap.objs.size + 1) s.heap.objs.size (s.setGen g .running).heap) Lg [] (s.setGen g .running) mG noC [] (s.setGen g .running) := Fr.toGen (.tail _ (.head _)) hN e2 f2 (fun p hp => by cases hp) List.nodup_nil
    have Fr' := Fr.perm (news' := (Lg, oL) :: [] ++ ((I, oI) :: rest)) (by simp only [List.cons_append, List.nil_append]; ktn_no "perm_tac")
    have hr : ∀ p ∈ (I, oI) :: rest, p.1 ≠ s.heap.objs.size + 1 ∧ p.1 ≠ s.heap.objs.size := fun p hp => by
      have hp' : p ∈ [(I, oI), (Lg, oL)] ++ rest := by
        rcases List.mem_cons.mp hp with rfl | hp
        · exact .head _
        · simp [hp]
      have := Heap.lt_size (F.nw p hp').1
      exact ⟨Nat.ne_of_lt (Nat.lt_succ_of_lt this), Nat.ne_of_lt this⟩
    refine genNext (Y := YG w Lg (s.heap.objs.size + 1) s.heap.objs.size (units x)) (P := PG w Lg (s.heap.objs.size + 1) s.heap.objs.size) (n := (units x).length) R.handled (F.wf.nl.keeps F.keep) R.lt ⟨oI, nm, qn, F.at 0 rfl, c1, c2, c3⟩ hg ⟨rfl, seg_start hA ha hm rfl rfl Ft⟩ ?_ ?_
    · intro v s₁ gs' hb hY
      exact yield_done (pre := []) Fr' hI hg hs₀ e2 f2 e1 f1 hr rfl hb hY q
    · intro s₁ hP h' hk
      have hz : units x = [] := List.length_eq_zero_iff.mp hP.1
      generalize units x = us at q hz
      subst hz
      exact q _ (end_done Fr' hs₀ e2 f2 e1 f1 hr hP hk)
  | @susp us U pre I Lg e S g oI oL oE oS mG gs hI hN hU hgo =>
    have hI' := hI
    (refine x2_3 (hI') ?_; try clear hI'; intro nm qn c1 c2 c3)
    (refine x0_4 (F.nw (e, oE) (by simp)) ?_; intro _ e1 e2 e3)
    (refine x0_4 (F.nw (S, oS) (by simp)) ?_; intro _ f1 f2 f3)
    have hnd := F.nd
    simp only [List.cons_append, List.nil_append, List.map_cons, List.nodup_cons, List.mem_cons, not_or] at hnd
    have Ft : Fm w (Bg Lg e S (s.setGen g .running).heap) Lg [] (s.setGen g .running) mG noC [(e, oE), (S, oS)] (s.setGen g .running) := Fr.toGen (.tail _ (.head _)) hN e2 f2 (fun p hp => ?_) ?_
    have Fr' := Fr.perm (news' := (Lg, oL) :: [(e, oE), (S, oS)] ++ ((I, oI) :: rest)) (by simp only [List.cons_append, List.nil_append]; ktn_no "perm_tac")
    have hr : ∀ p ∈ (I, oI) :: rest, p.1 ≠ e ∧ p.1 ≠ S := fun p hp => by
      rcases List.mem_cons.mp hp with rfl | hp
      · exact ⟨hnd.1.2.1, hnd.1.2.2.1⟩
      · exact ⟨fun z => hnd.2.2.1.2 (List.mem_map.mpr ⟨p, hp, z⟩), fun z => hnd.2.2.2.1 (List.mem_map.mpr ⟨p, hp, z⟩)⟩
    refine genNext (Y := YG w Lg e S U) (P := PG w Lg e S) (n := us.length) R.handled (F.wf.nl.keeps F.keep) R.lt ⟨oI, nm, qn, F.at 0 rfl, c1, c2, c3⟩ hg (hgo _ Ft) ?_ ?_
    · intro v s₁ gs' hb hY
      exact yield_done Fr' hI hg hs₀ e2 f2 e1 f1 hr hU hb hY q
    · intro s₁ hP h' hk
      have hz : us = [] := List.length_eq_zero_iff.mp hP.1
      subst hz
      exact q _ (end_done Fr' hs₀ e2 f2 e1 f1 hr hP hk)
    · simp only [List.mem_cons, List.not_mem_nil, or_false] at hp
      rcases hp with rfl | rfl
      · exact ⟨by simp, .inl rfl, fun z => hnd.2.1.1 z.symm⟩
      · exact ⟨by simp, .inr rfl, fun z => hnd.2.1.2.1 z.symm⟩
    · simp only [List.map_cons, List.map_nil, List.nodup_cons, List.mem_cons, List.not_mem_nil, or_false, not_false_eq_true, and_true, List.nodup_nil]
      exact hnd.2.2.1.1
end
theorem Rel.gsize {s₀ s : Shared} (r : Rel s₀ s) : s₀.gens.size ≤ s.gens.size := by
  rcases Nat.lt_or_ge s.gens.size s₀.gens.size with z | z
  · have := r.gens s.gens.size _ (Array.getElem?_eq_getElem z)
    rw [Array.getElem?_eq_none (Nat.le_refl _)] at this; cases this
  · exact z
section
variable {w : World} {B : Heap} {L : Addr} {m : PySem.Str → Option Value} {cl : List (PySem.Str × Addr)} {cm : PySem.Str → Option Value} {rest : List (Addr × Obj)} {s₀ s : Shared} {A : Around} {E : Value → Shared → Prop} {n : Nat} {Q : Value → Shared → Prop} {x : PySem.Str} {tx : Tok} {h : Heap} {g : Array GenState} {d d₀ : Drawn} {tk tk₀ : Nat} {os : OsState}
theorem Fm.gpush (F : Fm w B L cl s₀ m cm rest ⟨h, g, d₀, tk₀, os⟩) {y : GenState} (hy : y.bare = true) : Fm w B L cl s₀ m cm rest ⟨h, g.push y, d, tk, os⟩ :=
  { F with rl := ⟨F.rl.os, fun k z e => by
      have := F.rl.gens k z e
      have hk : k < g.size := (Array.getElem?_eq_some_iff.mp this).1
      show (g.push y)[k]? = some z
      rw [Array.getElem?_push, if_neg (by ktn_no "om")]; exact this, fun hb z hz => by
      rcases Array.mem_push.mp hz with hz | rfl
      · exact F.rl.bare hb z hz
      · exact hy, F.rl.tg, trivial⟩ }
theorem gen_call (A' : Around) (R : Room (n + 2) A) (F : Fm w B L [] s₀ m cm rest s) (ha : x.cps.all (· < 128) = true)
    (q : ∀ I own gs s', GenSt w A' (units x) I s.gens.size own gs → Fm w B L [] s₀ m cm (own ++ rest) s' → s'.gens[s.gens.size]? = some gs → Q (.ref I) s') : wpAny (M w) A (call (.ref a_iter_escaped_chars) [.str x tx]) Q E s := by
  obtain ⟨h, g, d, tk, os⟩ := s
  have X := F.K
  refine wpAny_call (codeAny_call_generator (fd := fd_iter_escaped_chars) (body := body_iter_escaped_chars) R.lt (X _ _ (lk_iter_escaped_chars _)) rfl rfl rfl rfl (codeRec_of X (cd_iter_escaped_chars _)) ?_)
  refine BindsTo.of_eq (binds := [("addr", Value.str x tx)]) rfl _ _ _ _ ?_
  refine wpAny_newFunctionEnv (by decide) (locs (by kernel_rfl)) (fun h' hn hs => ?_) rfl
  have hk : ∀ b o, h.get? b = some o → h'.get? b = some o := fun b o e => (hs.2 b (fun q => absurd (Heap.lt_size e) (by rw [q]; exact Nat.lt_irrefl _))).trans (Heap.get?_push_of_some _ e)
  have F₁ := Fm.keepAll (d := d) (tk := tk + 1) F hk
  (refine x1_2 (ns_of hn) ?_; intro oL hL hN)
  (refine x0_4 (Fm.fresh (a := h.objs.size) F (Nat.le_refl _)) ?_; intro a1 a2 a3 a4)
  have F₂ := Fm.add F₁ hL a1 a2 a3 a4
  have F₃ := F₂.push1 (g := g) (d := d) (tk := tk + 1 + 1 + 1) ⟨.type "generator", none, .fields #[.int g.size 0, .str fd_iter_escaped_chars.name (tk + 1), .str fd_iter_escaped_chars.qualname (tk + 1 + 1)], #[]⟩
  have F₄ := Fm.gpush (d := d) (tk := tk + 1 + 1 + 1) F₃ (y := .fresh (.func body_iter_escaped_chars (gEnv h.objs.size))) rfl
  refine ⟨(F.wf.nl.keeps F.keep).keeps hk, ?_⟩
  refine q h'.objs.size [(h'.objs.size, ⟨.type "generator", none, .fields #[.int g.size 0, .str fd_iter_escaped_chars.name (tk + 1), .str fd_iter_escaped_chars.qualname (tk + 1 + 1)], #[]⟩), (h.objs.size, oL)] _ _ (GenSt.fresh (tx := tx) ⟨_, _, rfl, rfl, rfl⟩ hN (by kernel_rfl) ha) F₄ ?_
  show (g.push _)[g.size]? = _
  rw [Array.getElem?_push_size]; rfl
end
noncomputable abbrev Q1 : PySem.Str := Str.ofString "\""
noncomputable abbrev SSt : Type := Nat × Option Nat × List PySem.Str
noncomputable def stripStep (x : PySem.Str) (st : SSt) (u : Nat × PySem.Str) : SSt :=
  if u.2 == Q1 then match st.2.1 with
    | none => (st.1, some u.1, st.2.2)
    | some o => (u.1 + 1, none, if st.1 = o then st.2.2 else st.2.2 ++ [Txt.slice x (some st.1) (some o)])
  else st
noncomputable def stripEnd (x : PySem.Str) (st : SSt) : List PySem.Str := if st.1 < x.length then st.2.2 ++ [Txt.slice x (some st.1) none] else st.2.2
noncomputable def stripF (x : PySem.Str) : PySem.Str :=
  if (Builtin.Str.occurrences x Q1 0 x.length 1).isEmpty then x else Txt.join ⟨#[]⟩ (stripEnd x ((units x).foldl (stripStep x) (0, none, [])))
noncomputable def opV (t : Tok) : Option Nat → Value
  | none => .none
  | some o => .int (o : Nat) t
section
variable {w : World} {B : Heap} {L I : Addr} {m : PySem.Str → Option Value} {cm : PySem.Str → Option Value} {own rest : List (Addr × Obj)} {s₀ s : Shared} {A : Around} {E : Value → Shared → Prop} {n : Nat} {x : PySem.Str} {tx : Tok} {lr : Addr} {Q : Flow → Shared → Prop} {g : Nat}
noncomputable abbrev stripFor : Stmt := body_strip_quoted_realnames.getD 4 default
noncomputable abbrev stT : Expr := (forParts stripFor).1
noncomputable abbrev stB : List Stmt := (forParts stripFor).2.2.1
theorem gen_go {us : List (Nat × PySem.Str)} {gs : GenState} {elts : List Expr} {k : Nat} {pos : Pos} {T : Addr} {oT : Obj} {Q : Unit → Shared → Prop} (hst : GenSt w A us I g own gs) (F : Fm w B L [] s₀ m cm ((T, oT) :: own ++ rest) s) (q : Q () s) :
    wpAny (M w) A (letOwnedTupleGo (.Tuple elts k pos) (.ref I) (.ref T)) Q E s := by
  have fin : ∀ oI, GenO oI g → s.heap.get? I = some oI → wpAny (M w) A (letOwnedTupleGo (.Tuple elts k pos) (.ref I) (.ref T)) Q E s := fun oI ⟨nm, qn, c1, c2, c3⟩ e => by
    unfold letOwnedTupleGo
    refine wpAny_bind (wpAny_load e ?_)
    rw [c1, c2]
    dsimp only
    rw [if_neg (by simp)]
    exact wpAny_pure q
  cases hst with
  | fresh hI _ _ _ => exact fin _ hI (F.at 1 rfl)
  | susp hI _ _ _ => exact fin _ hI (F.at 1 rfl)
theorem strip_loop (R : Room (n + 10) A) (hlx : x.length ≤ 100000) :
    ∀ (us : List (Nat × PySem.Str)) (st : SSt) (m : PySem.Str → Option Value) (own : List (Addr × Obj)) (gs : GenState) (s : Shared) (nl : Nat) (l : List (PySem.Str × Tok)) (t1 t2 : Tok),
      GenSt w A us I g own gs → s.gens[g]? = some gs → s₀.gens.size ≤ g → Fm w B L [] s₀ m cm (own ++ ((lr, lsO (strValues l) nl) :: rest)) s → l.map (·.1) = st.2.2 → m "addr" = some (.str x tx) → m "result" = some (.ref lr) → m "start" = some (.int (st.1 : Nat) t1) → m "open_pos" = some (opV t2 st.2.1) → st.2.2.length + us.length ≤ 100000 →
      (∀ m' nl' l' t1' s', Fm w B L [] s₀ m' cm ((lr, lsO (strValues l') nl') :: rest) s' → l'.map (·.1) = (us.foldl (stripStep x) st).2.2 → m' "addr" = some (.str x tx) → m' "result" = some (.ref lr) → m' "start" = some (.int ((us.foldl (stripStep x) st).1 : Nat) t1') → Q .next s') →
      LoopC w A stT (.ref I) stB [] (callEnv fd_strip_quoted_realnames L a_strip_quoted_realnames) Q s
  | [], st, m, own, gs, s, nl, l, t1, t2, hst, hg, hs, F, hl, ha, hr, hs1, ho, hle, hq => by
    refine loop_step ?_
    refine gen_next (n := n) (R.less (by ktn_no "le")) F hst hg hs fun s' F' => ?_
    dsimp only
    exact wpAny_execs_nil (hq _ _ _ _ _ F' hl ha hr hs1)
  | (a, b) :: us, st, m, own, gs, s, nl, l, t1, t2, hst, hg, hs, F, hl, ha, hr, hs1, ho, hle, hq => by
    refine loop_step ?_
    refine gen_next (n := n) (R.less (by ktn_no "le")) F hst hg hs fun T u1 u2 own' gs' s' hst' F' hg' => ?_
    dsimp only
    refine gen_go hst' F' ?_
    obtain ⟨h₂, g₂, d₂, k₂, o₂⟩ := s'
    refine assign_pair F' R.handled (F'.at 0 rfl) rfl (by kernel_rfl) (by kernel_rfl) (by kernel_rfl) fun h₃ k₃ F₃ => ?_
    have F₄ := F₃.drop 1
    simp only [List.cons_append, List.drop] at F₄
    clear F F' F₃
    have eB : stB = stB := rfl
    ktn_no "ast"
    ktn_no "x"
    refine eq_str ?_
    ktn_no "x"
    simp only [List.foldl_cons] at hq
    cases hb : b == Q1 with
    | false =>
      have e : stripStep x st (a, b) = st := by simp only [stripStep, hb]; rfl
      rw [e] at hq
      rw [if_neg (by decide)]
      ktn_no "x"
      exact strip_loop R hlx us st _ _ _ _ _ l t1 t2 hst' hg' hs (F₄.toks _) hl (by ktn_no "k_val") (by ktn_no "k_val") (by ktn_no "k_val") (by ktn_no "k_val") (by simp at hle ⊢; (first | lia | omega)) hq
    | true =>
      rw [if_pos rfl]
      obtain ⟨st1, st2, st3⟩ := st
      cases st2 with
      | none =>
        have e : stripStep x (st1, none, st3) (a, b) = (st1, some a, st3) := by simp only [stripStep, hb]; rfl
        rw [e] at hq
        simp only [opV] at ho
        ktn_no "x"
        rw [if_pos (by decide)]
        ktn_no "x"
        rename_i h₅ F₅
        exact strip_loop R hlx us (st1, some a, st3) _ _ _ _ _ l t1 u1 hst' hg' hs F₅ hl (by ktn_no "k_val") (by ktn_no "k_val") (by ktn_no "k_val") (by ktn_no "k_val") (by simp at hle ⊢; (first | lia | omega)) hq
      | some o =>
        have e : stripStep x (st1, some o, st3) (a, b) = (a + 1, none, if st1 = o then st3 else st3 ++ [Txt.slice x (some st1) (some o)]) := by simp only [stripStep, hb]; rfl
        rw [e] at hq
        simp only [opV] at ho
        ktn_no "x"
        rw [if_neg (by simp)]
        ktn_no "x"
        refine ne_int ?_
        ktn_no "x"
        by_cases h1 : st1 = o
        · subst h1
          rw [if_neg (by simp)]
          rw [if_pos rfl] at hq
          ktn_no "x"
          rename_i h₅ F₅ h₆ F₆
          exact strip_loop R hlx us (a + 1, none, st3) _ _ _ _ _ l _ 0 hst' hg' hs F₆ hl (by ktn_no "k_val") (by ktn_no "k_val") (by ktn_no "k_val") (by ktn_no "k_val") (by simp at hle ⊢; (first | lia | omega)) hq
        · rw [if_pos (by rw [bne_iff_ne]; intro z; (first | lia | omega))]
          rw [if_neg h1] at hq
          ktn_no "x"
          have G₁ := F₄.perm (news' := (lr, lsO (strValues l) nl) :: (own' ++ rest)) (by ktn_no "perm_tac")
          refine Calls.getMethod_list_append (G₁.at 0 rfl) rfl rfl ?_
          ktn_no "x"
          refine wpAny_Subscript_str_slice ?_ (fun _ _ => rfl)
          ktn_no "x"
          refine evalPart_some_step ?_
          ktn_no "x"
          refine evalPart_some_step ?_
          ktn_no "x"
          refine ⟨x, tx, some ((st1 : Nat), t1), some ((o : Nat), t2), rfl, rfl, rfl, post_val_or_str ⟨Nat.le_trans (Txt.slice_le x (some (st1 : Nat)) (some (o : Nat))) (Nat.le_trans hlx (by decide)), fun t' k' => ?_⟩⟩
          dsimp only
          have G₂ := G₁.push1 (g := g₂) (d := d₂) (tk := k') (slO (.int (st1 : Nat) t1) (.int (o : Nat) t2) .none)
          ktn_no "x"
          have hll : l.length = st3.length := by have := congrArg List.length hl; simpa using this
          refine append_at (G₂.at 1 rfl) (fun h₇ hs₇ hx₇ => ?_) (Nat.le_trans (by simp [strValues] at hle ⊢; (first | lia | omega)) (show (100000 : Nat) ≤ sizeLine by decide))
          have e5 : (strValues l).toArray.push (.str (Txt.slice x (some (st1 : Nat)) (some (o : Nat))) t') = (strValues (l ++ [(Txt.slice x (some (st1 : Nat)) (some (o : Nat)), t')])).toArray := by simp [strValues]
          have F₇ := G₂.set1 (i := 1) (g := g₂) (d := d₂) (tk := k') (o' := ⟨.type "list", none, .seq (strValues (l ++ [(Txt.slice x (some (st1 : Nat)) (some (o : Nat)), t')])).toArray (nl + 1), #[]⟩) rfl hs₇ (by rw [← e5]; exact hx₇)
          have F₈ := (F₇.drop 1).perm (news' := own' ++ (lr, ⟨.type "list", none, .seq (strValues (l ++ [(Txt.slice x (some (st1 : Nat)) (some (o : Nat)), t')])).toArray (nl + 1), #[]⟩) :: rest) (by simp only [List.set, List.drop]; ktn_no "perm_tac")
          clear F₄ G₁ G₂ F₇
          ktn_no "x"
          rename_i h₉ F₉ h₁₀ F₁₀
          exact strip_loop R hlx us (a + 1, none, st3 ++ [Txt.slice x (some (st1 : Nat)) (some (o : Nat))]) _ _ _ _ _ (l ++ [(Txt.slice x (some (st1 : Nat)) (some (o : Nat)), t')]) _ 0 hst' hg' hs F₁₀ (by simp [hl]) (by ktn_no "k_val") (by ktn_no "k_val") (by ktn_no "k_val") (by ktn_no "k_val") (by simp at hle ⊢; (first | lia | omega)) hq
end
/-- what the strip wants of a text -/
noncomputable def StripOk (x : PySem.Str) : Prop := x.cps.all (· < 128) = true ∧ x.length ≤ 10000 ∧ JoinOk (⟨#[]⟩ : PySem.Str) (stripEnd x ((units x).foldl (stripStep x) (0, none, []))) = true
theorem esc_len : ∀ (l : List Nat) (p : Nat) (e : Bool) (last : Nat), (esc l p e last).length ≤ l.length + 1
  | [], p, e, last => by unfold esc; split <;> simp
  | c :: r, p, e, last => by
    unfold esc
    split
    · have := esc_len r (p + 1) false p; simp; (first | lia | omega)
    · split
      · have := esc_len r (p + 1) true p; simp; (first | lia | omega)
      · have := esc_len r (p + 1) false p; simp; (first | lia | omega)
theorem strip_len (x : PySem.Str) : ∀ (us : List (Nat × PySem.Str)) (st : SSt), (us.foldl (stripStep x) st).2.2.length ≤ st.2.2.length + us.length
  | [], st => by simp
  | u :: us, st => by
    have := strip_len x us (stripStep x st u)
    have h2 : (stripStep x st u).2.2.length ≤ st.2.2.length + 1 := by
      unfold stripStep
      split
      · split
        · simp
        · simp only []; split <;> simp
      · (first | lia | omega)
    simp only [List.foldl_cons, List.length_cons]; (first | lia | omega)
section
variable {w : World} {B : Heap} {L I : Addr} {m : PySem.Str → Option Value} {cl : List (PySem.Str × Addr)} {cm : PySem.Str → Option Value} {own rest : List (Addr × Obj)} {s₀ s : Shared} {A : Around} {E : Value → Shared → Prop} {n : Nat} {x : PySem.Str} {tx : Tok} {lr : Addr} {Q : Value → Shared → Prop} {g : Nat}
theorem gen_iter {us : List (Nat × PySem.Str)} {gs : GenState} (hst : GenSt w A us I g own gs) (F : Fm w B L cl s₀ m cm (own ++ rest) s) {A₂ : Around} (q : Q (.ref I) s) : wpAny (M w) A₂ (pyIter (.ref I)) Q E s := by
  cases hst with
  | fresh hI _ _ _ => obtain ⟨nm, qn, c⟩ := hI; exact wpAny_pyIter_gen ⟨_, nm, qn, F.at 0 rfl, c⟩ q
  | susp hI _ _ _ => obtain ⟨nm, qn, c⟩ := hI; exact wpAny_pyIter_gen ⟨_, nm, qn, F.at 0 rfl, c⟩ q
theorem strip_spec (R : Room (n + 20) A) (F : Fm w B L cl s₀ m cm rest s) (hx : StripOk x)
    (h : ∀ t s', Fm w B L cl s₀ m cm rest s' → Q (.str (stripF x) t) s') :
   wpAny (M w) A (call (.ref a_strip_quoted_realnames) [.str x tx] []) Q E s := by
  (refine x0_3 (hx) ?_; try clear hx; intro ha hlx hj)
  refine call_fn (binds := [("addr", .str x tx)]) (fd := fd_strip_quoted_realnames) (cmF := fun _ => none) R F (lk_strip_quoted_realnames _) (cd_strip_quoted_realnames _) rfl (BindsTo.of_eq rfl) (by decide) (by kernel_rfl) (fun _ _ e => (by cases e)) (fun _ _ _ e => (by cases e)) ?_ rfl rfl rfl
  intro Qo hQo L' s₁ hL F₁ R₁
  obtain ⟨h₁, g₁, d₁, k₁, o₁⟩ := s₁
  ktn_no "ast"
  ktn_no "x"
  refine notIn_str ?_
  ktn_no "x"
  cases hoc : (Builtin.Str.occurrences x Q1 0 x.length 1).isEmpty with
  | true =>
    rw [if_pos (by decide)]
    ktn_no "x"
    refine hQo _ _ <| Back.of (F₁.toks _) fun G => ?_
    have e : stripF x = x := by unfold stripF; rw [if_pos hoc]
    have := h tx _ G
    rw [e] at this
    exact this
  | false =>
    have e : stripF x = Txt.join ⟨#[]⟩ (stripEnd x ((units x).foldl (stripStep x) (0, none, []))) := by unfold stripF; rw [hoc]; rfl
    rw [e] at h
    rw [if_neg (by decide)]
    ktn_no "x"
    rename_i h₂ F₂ h₃ F₃
    refine st_newList (by simp) ?_
    have F₄ := F₃.push1 (g := g₁) (d := d₁) (tk := k₁ + 1 + 1) (lsO [] 0)
    refine st_L F₄ (by kernel_rfl) (by kernel_rfl!) (by kernel_rfl) fun h₅ F₅ => ?_
    clear F₁ F₂ F₃ F₄
    refine wpAny_execs_cons (wFor ?_ (fun x => rfl))
    ktn_no "x"
    refine gen_call (n := n + 10) (A.deeper (callEnv fd_strip_quoted_realnames L' a_strip_quoted_realnames)) (R₁.less (by ktn_no "le")) (F₅.toks _) ha fun I own gs s' hst F₆ hg => ?_
    obtain ⟨h₆, g₆, d₆, k₆, o₆⟩ := s'
    refine gen_iter hst F₆ ?_
    refine strip_loop (x := x) (tx := tx) (n := n + 5) (R₁.less (by ktn_no "le")) (by ktn_no "om") (units x) (0, none, []) _ _ _ _ _ [] _ 0 hst hg F₅.rl.gsize F₆ rfl (by ktn_no "k_val") (by ktn_no "k_val") (by ktn_no "k_val") (by ktn_no "k_val") (by have := esc_len x.cps.toList 0 false 0; have e2 : x.cps.toList.length = x.length := rfl; simp [units]; (first | lia | omega)) fun m' nl' l' t1' s' F₇ hl' hm1 hm2 hm3 => ?_
    obtain ⟨h₇, g₇, d₇, k₇, o₇⟩ := s'
    clear F₅ F₆
    ktn_no "x"
    refine SBL.len (by ktn_no "om") ?_
    ktn_no "x"
    generalize hst' : (units x).foldl (stripStep x) (0, none, []) = st at *
    have hll : l'.length = st.2.2.length := by have := congrArg List.length hl'; simpa using this
    have hlen : st.2.2.length ≤ 20000 := by
      have h1 := strip_len x (units x) (0, none, [])
      have h2 := esc_len x.cps.toList 0 false 0
      have h3 : x.cps.toList.length = x.length := rfl
      rw [hst'] at h1
      simp only [List.length_nil] at h1
      have h4 : (units x).length ≤ x.cps.toList.length + 1 := h2
      (first | lia | omega)
    by_cases hlt : st.1 < x.length
    · rw [if_pos (by simpa using hlt)]
      have ee : stripEnd x st = st.2.2 ++ [Txt.slice x (some st.1) none] := if_pos hlt
      rw [ee] at h hj
      ktn_no "x"
      refine Calls.getMethod_list_append (F₇.at 0 rfl) rfl rfl ?_
      ktn_no "x"
      refine wpAny_Subscript_str_slice ?_ (fun _ _ => rfl)
      ktn_no "x"
      refine evalPart_some_step ?_
      ktn_no "x"
      refine evalPart_none_step ?_
      refine ⟨x, tx, some ((st.1 : Nat), t1'), none, rfl, rfl, rfl, post_val_or_str ⟨Nat.le_trans (Txt.slice_le x (some (st.1 : Nat)) none) (Nat.le_trans hlx (by decide)), fun t' k' => ?_⟩⟩
      dsimp only
      have G₂ := F₇.push1 (g := g₇) (d := d₇) (tk := k') (slO (.int (st.1 : Nat) t1') .none .none)
      ktn_no "x"
      refine append_at (G₂.at 1 rfl) (fun h₈ hs₈ hx₈ => ?_) (Nat.le_trans (by simp [strValues]; (first | lia | omega)) (show (100000 : Nat) ≤ sizeLine by decide))
      have e5 : (strValues l').toArray.push (.str (Txt.slice x (some (st.1 : Nat)) none) t') = (strValues (l' ++ [(Txt.slice x (some (st.1 : Nat)) none, t')])).toArray := by simp [strValues]
      have F₈ := G₂.set1 (i := 1) (g := g₇) (d := d₇) (tk := k') (o' := ⟨.type "list", none, .seq (strValues (l' ++ [(Txt.slice x (some (st.1 : Nat)) none, t')])).toArray (nl' + 1), #[]⟩) rfl hs₈ (by rw [← e5]; exact hx₈)
      dsimp only [List.set] at F₈
      ktn_no "x"
      refine GM.join ?_
      ktn_no "x"
      refine join_tup (F₈.at 1 rfl) (.inl rfl) rfl (by simpa [hl', e_empty] using hj) fun t' k' => ?_
      refine hQo _ _ <| Back.of ((F₈.drop 2).toks _) fun G => ?_
      rw [e_empty]
      simpa [hl', retV] using h _ _ G
    · rw [if_neg (by simpa using hlt)]
      have ee : stripEnd x st = st.2.2 := if_neg hlt
      rw [ee] at h hj
      ktn_no "x"
      refine GM.join ?_
      ktn_no "x"
      refine join_tup (F₇.at 0 rfl) (.inl rfl) rfl (by simpa [hl', e_empty] using hj) fun t' k' => ?_
      refine hQo _ _ <| Back.of ((F₇.drop 1).toks _) fun G => ?_
      rw [e_empty]
      simpa [hl', retV] using h _ _ G
end
section
variable {w : World} {B : Heap} {L : Addr} {m : PySem.Str → Option Value} {cl : List (PySem.Str × Addr)} {cm : PySem.Str → Option Value} {news : List (Addr × Obj)} {s₀ : Shared} {A : Around} {E : Value → Shared → Prop}
  {h : Heap} {g g₀ : Array GenState} {d d₀ : Drawn} {tk tk₀ : Nat} {os os₀ : OsState} {env : Env} {x : PySem.Str} {v : Value}
theorem ln_L {Q : Value → Shared → Prop} (F : Fm w B L cl s₀ m cm news ⟨h, g₀, d₀, tk₀, os₀⟩) (hk : env.scope.kind = .function) (hx : env.kindOf x = some .local) (hL : env.locals = L) (hv : m x = some v) (q : Q v ⟨h, g, d, tk, os⟩) :
    wpAny (M w) A (loadName env x) Q E ⟨h, g, d, tk, os⟩ := wpAny_loadName_local hk hx (by subst hL; exact F.ns) hv q
end
local macro_rules | `(tactic| ktn_no "y1") => `(tactic| first
  | ktn_no "x1"
  | (with_reducible refine ln_L (by assumption) (by kernel_rfl) (by kernel_rfl!) (by kernel_rfl) (by ktn_no "k_val") ?_)
  | (with_reducible refine iadd_int ?_)
  | (with_reducible refine isub_int ?_)
  | (with_reducible refine ne_int ?_)
  | (with_reducible refine le_int ?_)
  | (with_reducible refine eq_str ?_)
  | (with_reducible refine Subscript_ ?_))
local macro_rules | `(tactic| ktn_no "y") => `(tactic| repeat ktn_no "y1")
noncomputable abbrev cOp : PySem.Str := Str.ofString "("
noncomputable abbrev cCl : PySem.Str := Str.ofString ")"
noncomputable def checkGo : List (Nat × PySem.Str) → Int → Bool
  | [], o => o == 0
  | u :: us, o => if u.2 == cOp then checkGo us (o + 1) else if u.2 == cCl then (if o - 1 < 0 then false else checkGo us (o - 1)) else checkGo us o
noncomputable def checkF (x : PySem.Str) : Bool := checkGo (units (stripF x)) 0
section
variable {w : World} {B : Heap} {L I : Addr} {m : PySem.Str → Option Value} {cm : PySem.Str → Option Value} {own rest : List (Addr × Obj)} {s₀ s : Shared} {A : Around} {E : Value → Shared → Prop} {n : Nat} {x : PySem.Str} {tx : Tok} {Q : Flow → Shared → Prop} {g : Nat}
noncomputable abbrev ckFor : Stmt := body_check_parenthesis.getD 2 default
noncomputable abbrev ckT : Expr := (forParts ckFor).1
noncomputable abbrev ckB : List Stmt := (forParts ckFor).2.2.1
theorem check_loop (R : Room (n + 10) A) :
    ∀ (us : List (Nat × PySem.Str)) (op : Int) (m : PySem.Str → Option Value) (own : List (Addr × Obj)) (gs : GenState) (s : Shared) (t1 : Tok),
      GenSt w A us I g own gs → s.gens[g]? = some gs → s₀.gens.size ≤ g → Fm w B L [] s₀ m cm (own ++ rest) s → m "opens" = some (.int op t1) →
      (∀ m' t1' s' op', Fm w B L [] s₀ m' cm rest s' → m' "opens" = some (.int op' t1') → (op' == 0) = checkGo us op → Q .next s') →
      (∀ m' s', Fm w B L [] s₀ m' cm rest s' → checkGo us op = false → Q (.ret (.bool false)) s') →
      LoopC w A ckT (.ref I) ckB [] (callEnv fd_check_parenthesis L a_check_parenthesis) Q s
  | [], op, m, own, gs, s, t1, hst, hg, hs, F, ho, hq, hf => by
    refine loop_step ?_
    refine gen_next (n := n) (R.less (by ktn_no "le")) F hst hg hs fun s' F' => ?_
    dsimp only
    exact wpAny_execs_nil (hq _ _ _ _ F' ho rfl)
  | (a, b) :: us, op, m, own, gs, s, t1, hst, hg, hs, F, ho, hq, hf => by
    refine loop_step ?_
    refine gen_next (n := n) (R.less (by ktn_no "le")) F hst hg hs fun T u1 u2 own' gs' s' hst' F' hg' => ?_
    dsimp only
    refine gen_go hst' F' ?_
    obtain ⟨h₂, g₂, d₂, k₂, o₂⟩ := s'
    refine assign_pair F' R.handled (F'.at 0 rfl) rfl (by kernel_rfl) (by kernel_rfl) (by kernel_rfl) fun h₃ k₃ F₃ => ?_
    have F₄ := F₃.drop 1
    simp only [List.cons_append, List.drop] at F₄
    clear F F' F₃
    unfold checkGo at hq hf
    dsimp only at hq hf
    ktn_no "ast"
    ktn_no "x"
    refine eq_str ?_
    ktn_no "x"
    cases h1 : b == cOp with
    | true =>
      rw [h1] at hq hf
      simp only [if_true] at hq hf
      rw [if_pos rfl]
      ktn_no "y"
      rename_i h₅ F₅
      exact check_loop R us (op + 1) _ _ _ _ _ hst' hg' hs F₅ (by ktn_no "k_val") hq hf
    | false =>
      rw [h1] at hq hf
      simp only [Bool.false_eq_true, if_false] at hq hf
      rw [if_neg (by decide)]
      ktn_no "x"
      refine eq_str ?_
      ktn_no "x"
      cases h2 : b == cCl with
      | true =>
        rw [h2] at hq hf
        simp only [if_true] at hq hf
        rw [if_pos rfl]
        ktn_no "y"
        rename_i h₅ F₅
        by_cases h3 : op - 1 < 0
        · rw [if_pos (by simpa using h3)]
          simp only [h3, if_true] at hf
          ktn_no "x"
          exact hf _ _ ((F₅.sub (List.sublist_append_right _ _)).toks _) trivial
        · rw [if_neg (by simpa using h3)]
          simp only [h3, if_false] at hq hf
          ktn_no "x"
          exact check_loop R us (op - 1) _ _ _ _ _ hst' hg' hs (F₅.toks _) (by ktn_no "k_val") hq hf
      | false =>
        rw [h2] at hq hf
        simp only [Bool.false_eq_true, if_false] at hq hf
        rw [if_neg (by decide)]
        ktn_no "x"
        exact check_loop R us op _ _ _ _ t1 hst' hg' hs (F₄.toks _) (by ktn_no "k_val") hq hf
theorem check_spec {cl : List (PySem.Str × Addr)} {Q : Value → Shared → Prop} (R : Room (n + 24) A) (F : Fm w B L cl s₀ m cm rest s) (hx : StripOk x) (hx2 : (stripF x).cps.all (· < 128) = true)
    (h : ∀ s', Fm w B L cl s₀ m cm rest s' → Q (.bool (checkF x)) s') :
   wpAny (M w) A (call (.ref a_check_parenthesis) [.str x tx] []) Q E s := by
  refine call_fn (binds := [("addr", .str x tx)]) (fd := fd_check_parenthesis) (cmF := fun _ => none) R F (lk_check_parenthesis _) (cd_check_parenthesis _) rfl (BindsTo.of_eq rfl) (by decide) (by kernel_rfl) (fun _ _ e => (by cases e)) (fun _ _ _ e => (by cases e)) ?_ rfl rfl rfl
  intro Qo hQo L' s₁ hL F₁ R₁
  obtain ⟨h₁, g₁, d₁, k₁, o₁⟩ := s₁
  ktn_no "ast"
  ktn_no "y"
  refine strip_spec (n := n + 2) (R₁.less (by ktn_no "le")) F₁ hx fun t₂ s' F₂ => ?_
  obtain ⟨h₂, g₂, d₂, k₂, o₂⟩ := s'
  clear F₁
  ktn_no "y"
  rename_i h₃ F₃ h₄ F₄
  refine wFor ?_ (fun x => rfl)
  ktn_no "y"
  refine gen_call (n := n + 10) (A.deeper (callEnv fd_check_parenthesis L' a_check_parenthesis)) (R₁.less (by ktn_no "le")) (F₄.toks _) hx2 fun I own gs s' hst F₆ hg => ?_
  obtain ⟨h₆, g₆, d₆, k₆, o₆⟩ := s'
  refine gen_iter hst F₆ ?_
  refine check_loop (n := n + 5) (R₁.less (by ktn_no "le")) (units (stripF x)) 0 _ _ _ _ _ hst hg F₄.rl.gsize F₆ (by ktn_no "k_val") (fun m' t1' s' op' F₇ hm1 hop => ?_) (fun m' s' F₇ hop => ?_)
  · obtain ⟨h₇, g₇, d₇, k₇, o₇⟩ := s'
    clear F₂ F₃ F₄ F₆
    ktn_no "y"
    refine hQo _ _ <| Back.of (F₇.toks _) fun G => ?_
    have := h _ G
    unfold checkF at this
    rw [← hop] at this
    exact this
  · refine hQo _ _ <| Back.of F₇ fun G => ?_
    have := h _ G
    unfold checkF at this
    rw [hop] at this
    exact this
end
section
open PySem.Builtin.Re
noncomputable abbrev SM := PySem.Sre.M
theorem run_add (m : SM) : ∀ a b, m.runFor (a + b) = (m.runFor a).runFor b := by
  intro a
  induction a generalizing m with
  | zero => intro b; simp [Sre.M.runFor]
  | succ a ih =>
    intro b
    rw [show a + 1 + b = (a + b) + 1 by (first | lia | omega)]
    simp only [Sre.M.runFor]
    split
    · rename_i h
      cases b with
      | zero => simp [Sre.M.runFor]
      | succ b => simp [Sre.M.runFor, h]
    · exact ih _ _
theorem run_done {m : SM} (h : m.outcome.isSome = true) : ∀ n, m.runFor n = m
  | 0 => rfl
  | n + 1 => by simp [Sre.M.runFor, h]
noncomputable def Final (m : SM) (r : Option (Nat × Nat)) : Prop := match r with
  | some (a, b) => m.outcome = some .matched ∧ m.start = a ∧ m.handed = b
  | none => m.outcome = some .failed
theorem Final.some {m : SM} {r : Option (Nat × Nat)} (h : Final m r) : m.outcome.isSome = true := by
  cases r with
  | none => rw [show m.outcome = _ from h]; rfl
  | some p => rw [h.1]; rfl
noncomputable def Ends (m : SM) (n : Nat) (r : Option (Nat × Nat)) : Prop := Final (m.runFor n) r
theorem Ends.step {m : SM} {n : Nat} {r : Option (Nat × Nat)} (h : Ends m.step n r) (ho : m.outcome = none) : Ends m (n + 1) r := by
  unfold Ends at *
  simp only [Sre.M.runFor, ho]
  exact h
theorem Ends.mono {m : SM} {n k : Nat} {r : Option (Nat × Nat)} (h : Ends m n r) (hk : n ≤ k) : Ends m k r := by
  unfold Ends at *
  obtain ⟨j, rfl⟩ := Nat.le.dest hk
  rw [run_add, run_done h.some]
  exact h
section
variable {M : Model} {A : Around} {E : Value → Shared → Prop} {s : Shared}
theorem drive {r : Option (Nat × Nat)} {Q : SM → Shared → Prop} (hq : ∀ m', Final m' r → Q m' s) : ∀ (T : Nat) (m : SM) (n : Nat), Ends m n r → n ≤ 4 * T → 0 < T → wpAny M A (reDrive T m) Q E s
  | 0, _, _, _, _, h => absurd h (Nat.lt_irrefl _)
  | T + 1, m, n, h, hn, _ => by
    unfold reDrive
    rw [show reTurnSteps = 4 from rfl]
    dsimp only
    cases ho : (m.runFor 4).outcome.isSome with
    | true =>
      rw [if_pos rfl]
      refine wpAny_pure (hq _ ?_)
      have h2 : Ends m (4 + n) r := h.mono (by ktn_no "om")
      unfold Ends at h2
      rwa [run_add, run_done ho] at h2
    | false =>
      rw [if_neg (by decide)]
      have hn4 : 4 < n := by
        rcases Nat.lt_or_ge 4 n with z | z
        · exact z
        · have h2 : Ends m 4 r := h.mono z
          have := h2.some
          rw [ho] at this; cases this
      refine wpAny_bind (wpAny_rule ?_)
      refine drive hq T (m.runFor 4) (n - 4) ?_ (by ktn_no "om") (by ktn_no "om")
      unfold Ends at h ⊢
      rwa [← run_add, show 4 + (n - 4) = n by (first | lia | omega)]
theorem tagsLoop (m : SM) (l : List Nat) {Q : PUnit → Shared → Prop} (q : Q PUnit.unit s) : wpAny M A (forIn l PUnit.unit fun i _ => (if m.seen.has i = true then do
      rule (Sre.names.getD i "")
      pure (ForInStep.yield PUnit.unit)
    else pure (ForInStep.yield PUnit.unit) : Sem (ForInStep PUnit))) Q E s := by
  induction l with
  | nil => exact wpAny_pure q
  | cons i r ih =>
    simp only [List.forIn_cons]
    refine wpAny_bind ?_
    split
    · exact wpAny_bind (wpAny_rule (wpAny_pure ih))
    · exact wpAny_pure ih
theorem runEnd {m : SM} {n : Nat} {r : Option (Nat × Nat)} {Q : Option SM → Shared → Prop} (h : Ends m n r) (hn : n ≤ 2 ^ 64)
    (q : ∀ o : Option SM, (match r with | some (a, b) => ∃ m', o = some m' ∧ m'.start = a ∧ m'.handed = b | none => o = none) → Q o s) : wpAny M A (reRunToEnd m) Q E s := by
  unfold reRunToEnd
  refine wpAny_bind (drive (r := r) (fun m' hm => ?_) _ m n h (by ktn_no "om") (by ktn_no "om"))
  refine wpAny_bind (tagsLoop m' _ ?_)
  cases r with
  | none =>
    have : m'.outcome = _ := hm
    rw [this]
    exact wpAny_pure (q none rfl)
  | some p =>
    (refine x0_3 (hm) ?_; try clear hm; intro h1 h2 h3)
    rw [h1]
    exact wpAny_pure (q (some m') ⟨m', rfl, h2, h3⟩)
end

end
section
open PySem.Builtin.Re
noncomputable abbrev code1 : Array Nat := #[14, 4, 0, 1, 1, 6, 1, 16, 46, 1]
/-- the machine within an attempt at s -/
noncomputable def S1 (x : Array Nat) (s pc pos : Nat) (fo oo : Bool) (ho : Nat) (mu : Bool) (mk : Array (Option Nat)) (sn : Sre.Seen) (an : Option Bool) : SM :=
  { code := code1, text := x, lim := x.size, start := s, lastStart := x.size, mustAdvance := mu, pc, pos, handed := ho, outermost := oo, marks := mk, lastmark := -1, lastindex := -1, frames := [{ wait := .nextStart, pc := 5, pos := s, outermost := fo }], weight := 1, seen := sn, answer := an }
noncomputable def bol (x : Array Nat) (p : Nat) : Bool := p == 0 || x.getD (p - 1) 0 == 10
section
variable {x : Array Nat} {s pc pos : Nat} {fo oo : Bool} {ho : Nat} {mu : Bool} {mk : Array (Option Nat)} {sn : Sre.Seen} {r : Option (Nat × Nat)} {n : Nat}
theorem s1_at (h : bol x pos = true) : ∃ sn', (S1 x s 5 pos fo oo ho mu mk sn none).step = S1 x s 7 pos fo oo ho mu mk sn' none := by
  refine ⟨((sn.add 6).add (43 + 1)), ?_⟩
  show (if (pos == 0 || x.getD (pos - 1) 0 == 10) = true then _ else _ : SM) = _
  unfold bol at h
  rw [if_pos h]; rfl
theorem s1_at_no (h : bol x pos = false) : ∃ sn', (S1 x s 5 pos fo oo ho mu mk sn none).step = S1 x s 5 pos fo oo ho mu mk sn' (some false) := by
  refine ⟨((sn.add 6).add (43 + 1)), ?_⟩
  show (if (pos == 0 || x.getD (pos - 1) 0 == 10) = true then _ else _ : SM) = _
  unfold bol at h
  rw [h, if_neg (by decide)]; rfl
theorem s1_lit (hl : pos < x.size) (h : (x.getD pos 0 == 46) = true) : ∃ sn', (S1 x s 7 pos fo oo ho mu mk sn none).step = S1 x s 9 (pos + 1) fo oo ho mu mk sn' none := by
  refine ⟨sn.add 16, ?_⟩
  show (if pos ≥ x.size then _ else match (Except.ok (x.getD pos 0 == 46, sn.add 16) : Except String (Bool × Sre.Seen)) with | .error why => _ | .ok (false, seen) => _ | .ok (true, seen) => _ : SM) = _
  rw [if_neg (by ktn_no "om"), h]; rfl
theorem s1_lit_no (hl : pos < x.size) (h : (x.getD pos 0 == 46) = false) : ∃ sn', (S1 x s 7 pos fo oo ho mu mk sn none).step = S1 x s 7 pos fo oo ho mu mk sn' (some false) := by
  refine ⟨sn.add 16, ?_⟩
  show (if pos ≥ x.size then _ else match (Except.ok (x.getD pos 0 == 46, sn.add 16) : Except String (Bool × Sre.Seen)) with | .error why => _ | .ok (false, seen) => _ | .ok (true, seen) => _ : SM) = _
  rw [if_neg (by ktn_no "om"), h]; rfl
theorem s1_lit_end (hl : x.size ≤ pos) : ∃ sn', (S1 x s 7 pos fo oo ho mu mk sn none).step = S1 x s 7 pos fo oo ho mu mk sn' (some false) := by
  refine ⟨sn.add 16, ?_⟩
  show (if pos ≥ x.size then _ else _ : SM) = _
  rw [if_pos (by ktn_no "om")]; rfl
theorem s1_ok (h : (pos == s) = false) : ∃ sn', (S1 x s 9 pos fo oo ho mu mk sn none).step = S1 x s 9 pos fo oo pos mu mk sn' (some true) := by
  refine ⟨sn.add 1, ?_⟩
  show (if (oo && ((false && pos != x.size) || (mu && pos == s))) = true then _ else _ : SM) = _
  rw [h]; cases oo <;> cases mu <;> rfl
theorem s1_true : Ends (S1 x s pc pos fo oo ho mu mk sn (some true)) 2 (some (s, ho)) := ⟨rfl, rfl, rfl⟩
theorem s1_false (h : s < x.size) : (S1 x s pc pos fo oo ho mu mk sn (some false)).step = S1 x (s + 1) 5 (s + 1) false false (s + 1) false mk sn none := by
  show (if s < x.size then _ else _ : SM) = _
  rw [if_pos h]; rfl
theorem s1_false_end (h : ¬ s < x.size) : Ends (S1 x s pc pos fo oo ho mu mk sn (some false)) 2 none := by
  have e : (S1 x s pc pos fo oo ho mu mk sn (some false)).step = _ := show (if s < x.size then _ else _ : SM) = _ by rw [if_neg h]
  refine Ends.step (n := 1) ?_ rfl
  rw [e]
  rfl
noncomputable def hit1 (x : Array Nat) (p : Nat) : Bool := bol x p && (decide (p < x.size) && x.getD p 0 == 46)
noncomputable def find1 (x : Array Nat) : Nat → Nat → Option (Nat × Nat)
  | 0, _ => none
  | k + 1, s => if hit1 x s then some (s, s + 1) else if s < x.size then find1 x k (s + 1) else none
theorem search1 : ∀ (k s : Nat) (fo oo : Bool) (ho : Nat) (mu : Bool) (mk : Array (Option Nat)) (sn : Sre.Seen), s ≤ x.size → x.size < s + k → Ends (S1 x s 5 s fo oo ho mu mk sn none) (5 * k + 5) (find1 x k s)
  | 0, s, fo, oo, ho, mu, mk, sn, hs, hk => by
    (first | lia | omega)
  | k + 1, s, fo, oo, ho, mu, mk, sn, hs, hk => by
    unfold find1
    have next : ∀ pc pos ho' sn', Ends (S1 x s pc pos fo oo ho' mu mk sn' (some false)) (5 * k + 7) (if s < x.size then find1 x k (s + 1) else none) := fun pc pos ho' sn' => by
      by_cases h : s < x.size
      · rw [if_pos h]
        refine Ends.mono (n := (5 * k + 5) + 1) (Ends.step ?_ rfl) (by ktn_no "om")
        rw [s1_false h]
        exact search1 k (s + 1) _ _ _ _ _ _ (by ktn_no "om") (by ktn_no "om")
      · rw [if_neg h]
        exact (s1_false_end h).mono (by ktn_no "om")
    cases hb : bol x s with
    | false =>
      have e : hit1 x s = false := by unfold hit1; rw [hb]; rfl
      rw [e, if_neg (by decide)]
      obtain ⟨sn', es⟩ := s1_at_no (s := s) (fo := fo) (oo := oo) (ho := ho) (mu := mu) (mk := mk) (sn := sn) hb
      refine Ends.mono (n := (5 * k + 7) + 1) (Ends.step ?_ rfl) (by ktn_no "om")
      rw [es]
      exact next _ _ _ _
    | true =>
      obtain ⟨sn', es⟩ := s1_at (s := s) (fo := fo) (oo := oo) (ho := ho) (mu := mu) (mk := mk) (sn := sn) hb
      refine Ends.mono (n := ((5 * k + 8) + 1)) (Ends.step ?_ rfl) (by ktn_no "om")
      rw [es]
      by_cases hl : s < x.size
      · cases hc : x.getD s 0 == 46 with
        | true =>
          have e : hit1 x s = true := by unfold hit1; rw [hb, hc]; simpa using hl
          rw [e, if_pos rfl]
          obtain ⟨sn2, es2⟩ := s1_lit (s := s) (fo := fo) (oo := oo) (ho := ho) (mu := mu) (mk := mk) (sn := sn') hl hc
          refine Ends.mono (n := 2 + 1 + 1) (Ends.step ?_ rfl) (by ktn_no "om")
          rw [es2]
          obtain ⟨sn3, es3⟩ := s1_ok (x := x) (s := s) (pos := s + 1) (fo := fo) (oo := oo) (ho := ho) (mu := mu) (mk := mk) (sn := sn2) (by simp)
          refine Ends.step ?_ rfl
          rw [es3]
          exact s1_true
        | false =>
          have e : hit1 x s = false := by unfold hit1; rw [hc]; simp
          rw [e, if_neg (by decide)]
          obtain ⟨sn2, es2⟩ := s1_lit_no (s := s) (fo := fo) (oo := oo) (ho := ho) (mu := mu) (mk := mk) (sn := sn') hl hc
          refine Ends.step ?_ rfl
          rw [es2]
          exact next _ _ _ _
      · have e : hit1 x s = false := by unfold hit1; rw [decide_eq_false hl]; simp
        rw [e, if_neg (by decide)]
        obtain ⟨sn2, es2⟩ := s1_lit_end (s := s) (pos := s) (x := x) (fo := fo) (oo := oo) (ho := ho) (mu := mu) (mk := mk) (sn := sn') (by ktn_no "om")
        refine Ends.step ?_ rfl
        rw [es2]
        exact next _ _ _ _
theorem search1_from {must : Bool} (hs : s ≤ x.size) : Ends (Sre.forSearch code1 x 0 s x.size must) (5 * x.size + 20) (if s < x.size then find1 x (x.size - s + 1) s else none) := by
  by_cases h : s < x.size
  · rw [if_pos h]
    have e : ∃ mk sn, Sre.forSearch code1 x 0 s x.size must = S1 x s 5 s true true s must mk sn none := by
      refine ⟨Array.replicate (2 * 0) none, ({} : Sre.Seen).add 14, ?_⟩
      show (if (decide (s > x.size) || decide (x.size - s < 1)) = true then _ else _ : SM) = _
      rw [if_neg (by simp; (first | lia | omega))]
      rfl
    (refine x2_1 (e) ?_; try clear e; intro mk sn e)
    rw [e]
    exact (search1 (x.size - s + 1) s _ _ _ _ _ _ (by ktn_no "om") (by ktn_no "om")).mono (by ktn_no "om")
  · rw [if_neg h]
    have e : Sre.forSearch code1 x 0 s x.size must = _ := show (if (decide (s > x.size) || decide (x.size - s < 1)) = true then _ else _ : SM) = _ by rw [if_pos (by simp; (first | lia | omega))]
    rw [e]
    exact Ends.mono (n := 1) rfl (by ktn_no "om")
end

end
section
open PySem.Builtin.Re
noncomputable abbrev code2 : Array Nat := #[14, 9, 4, 1, 2, 16, 10, 16, 13, 0, 7, 7, 16, 13, 16, 10, 15, 18, 5, 16, 10, 15, 13, 11, 16, 13, 5, 5, 0, 16, 10, 1, 15, 2, 0, 1]
noncomputable abbrev NS (t : Nat) (fo : Bool) : Sre.Frame := { wait := .nextStart, pc := 10, pos := t, outermost := fo }
noncomputable abbrev NB (p t : Nat) (fo : Bool) : Sre.Frame := { wait := .nextBranch, pc := p, pos := t, outermost := fo }
noncomputable abbrev LN (t : Nat) (fo : Bool) : Sre.Frame := { wait := .lookNot, pc := 26, pos := t, outermost := fo }
/-- the machine within an attempt at s -/
noncomputable def S2 (x : Array Nat) (s : Nat) (frs : List Sre.Frame) (wt pc pos : Nat) (oo : Bool) (ho : Nat) (mk : Array (Option Nat)) (sn : Sre.Seen) (an : Option Bool) : SM :=
  { code := code2, text := x, lim := x.size, start := s, lastStart := x.size, mustAdvance := false, pc, pos, handed := ho, outermost := oo, marks := mk, lastmark := -1, lastindex := -1, frames := frs, weight := wt, seen := sn, answer := an }
section
variable {x : Array Nat} {s t pc pos : Nat} {fo f1 oo : Bool} {ho : Nat} {mk : Array (Option Nat)} {sn : Sre.Seen} {r : Option (Nat × Nat)} {n wt : Nat} {frs : List Sre.Frame}
theorem s2_branch : ∃ sn', (S2 x s [NS t fo] 1 10 pos oo ho mk sn none).step = S2 x s [NB 11 pos oo, NS t fo] 2 12 pos oo pos mk sn' none := ⟨_, rfl⟩
theorem s2_jump16 : ∃ sn', (S2 x s frs wt 16 pos oo ho mk sn none).step = S2 x s frs wt 35 pos oo ho mk sn' none := ⟨sn.add 15, by cases frs <;> rfl⟩
theorem s2_jump21 : ∃ sn', (S2 x s frs wt 21 pos oo ho mk sn none).step = S2 x s frs wt 35 pos oo ho mk sn' none := ⟨sn.add 15, by cases frs <;> rfl⟩
theorem s2_jump32 : ∃ sn', (S2 x s frs wt 32 pos oo ho mk sn none).step = S2 x s frs wt 35 pos oo ho mk sn' none := ⟨sn.add 15, by cases frs <;> rfl⟩
theorem s2_ok : ∃ sn', (S2 x s frs wt 35 pos oo ho mk sn none).step = S2 x s frs wt 35 pos oo pos mk sn' (some true) := ⟨sn.add 1, by cases frs <;> cases oo <;> rfl⟩
theorem s2_alt2 : (S2 x s [NB 11 t f1, NS t fo] 2 pc pos oo ho mk sn (some false)).step = S2 x s [NB 18 t f1, NS t fo] 2 19 t f1 t mk sn none := rfl
theorem s2_alt3 : (S2 x s [NB 18 t f1, NS t fo] 2 pc pos oo ho mk sn (some false)).step = S2 x s [NB 23 t f1, NS t fo] 2 24 t f1 t mk sn none := rfl
theorem s2_look : ∃ sn', (S2 x s [NB 23 t f1, NS t fo] 2 26 pos oo ho mk sn none).step = S2 x s [LN pos oo, NB 23 t f1, NS t fo] 3 29 pos false pos mk sn' none := ⟨sn.add 5, rfl⟩
theorem s2_look_no : (S2 x s [LN t f1, NB 23 s fo, NS s oo] 3 pc pos false ho mk sn (some false)).step = S2 x s [NB 23 s fo, NS s oo] 2 32 t f1 ho mk sn none := rfl
theorem s2_true {p : Nat} : Ends (S2 x s [NB p t f1, NS t fo] 2 pc pos oo ho mk sn (some true)) 3 (some (s, ho)) := ⟨rfl, rfl, rfl⟩
theorem s2_lit12 (hl : pos < x.size) (h : (x.getD pos 0 == 13) = true) : ∃ sn', (S2 x s frs wt 12 pos oo ho mk sn none).step = S2 x s frs wt 14 (pos + 1) oo ho mk sn' none := by
  refine ⟨sn.add 16, ?_⟩
  cases frs <;>
  · show (if pos ≥ x.size then _ else match (Except.ok (x.getD pos 0 == 13, sn.add 16) : Except String (Bool × Sre.Seen)) with | .error why => _ | .ok (false, seen) => _ | .ok (true, seen) => _ : SM) = _
    rw [if_neg (by ktn_no "om"), h]; rfl
theorem s2_lit12_no (h : ¬ (pos < x.size ∧ (x.getD pos 0 == 13) = true)) : ∃ sn', (S2 x s frs wt 12 pos oo ho mk sn none).step = S2 x s frs wt 12 pos oo ho mk sn' (some false) := by
  refine ⟨sn.add 16, ?_⟩
  by_cases hl : pos < x.size
  · have h : (x.getD pos 0 == 13) = false := by cases q : x.getD pos 0 == 13 with | false => rfl | true => exact absurd ⟨hl, q⟩ h
    cases frs <;>
    · show (if pos ≥ x.size then _ else match (Except.ok (x.getD pos 0 == 13, sn.add 16) : Except String (Bool × Sre.Seen)) with | .error why => _ | .ok (false, seen) => _ | .ok (true, seen) => _ : SM) = _
      rw [if_neg (by ktn_no "om"), h]; rfl
  · cases frs <;>
    · show (if pos ≥ x.size then _ else _ : SM) = _
      rw [if_pos (by ktn_no "om")]; rfl
theorem s2_lit14 (hl : pos < x.size) (h : (x.getD pos 0 == 10) = true) : ∃ sn', (S2 x s frs wt 14 pos oo ho mk sn none).step = S2 x s frs wt 16 (pos + 1) oo ho mk sn' none := by
  refine ⟨sn.add 16, ?_⟩
  cases frs <;>
  · show (if pos ≥ x.size then _ else match (Except.ok (x.getD pos 0 == 10, sn.add 16) : Except String (Bool × Sre.Seen)) with | .error why => _ | .ok (false, seen) => _ | .ok (true, seen) => _ : SM) = _
    rw [if_neg (by ktn_no "om"), h]; rfl
theorem s2_lit14_no (h : ¬ (pos < x.size ∧ (x.getD pos 0 == 10) = true)) : ∃ sn', (S2 x s frs wt 14 pos oo ho mk sn none).step = S2 x s frs wt 14 pos oo ho mk sn' (some false) := by
  refine ⟨sn.add 16, ?_⟩
  by_cases hl : pos < x.size
  · have h : (x.getD pos 0 == 10) = false := by cases q : x.getD pos 0 == 10 with | false => rfl | true => exact absurd ⟨hl, q⟩ h
    cases frs <;>
    · show (if pos ≥ x.size then _ else match (Except.ok (x.getD pos 0 == 10, sn.add 16) : Except String (Bool × Sre.Seen)) with | .error why => _ | .ok (false, seen) => _ | .ok (true, seen) => _ : SM) = _
      rw [if_neg (by ktn_no "om"), h]; rfl
  · cases frs <;>
    · show (if pos ≥ x.size then _ else _ : SM) = _
      rw [if_pos (by ktn_no "om")]; rfl
theorem s2_lit19 (hl : pos < x.size) (h : (x.getD pos 0 == 10) = true) : ∃ sn', (S2 x s frs wt 19 pos oo ho mk sn none).step = S2 x s frs wt 21 (pos + 1) oo ho mk sn' none := by
  refine ⟨sn.add 16, ?_⟩
  cases frs <;>
  · show (if pos ≥ x.size then _ else match (Except.ok (x.getD pos 0 == 10, sn.add 16) : Except String (Bool × Sre.Seen)) with | .error why => _ | .ok (false, seen) => _ | .ok (true, seen) => _ : SM) = _
    rw [if_neg (by ktn_no "om"), h]; rfl
theorem s2_lit19_no (h : ¬ (pos < x.size ∧ (x.getD pos 0 == 10) = true)) : ∃ sn', (S2 x s frs wt 19 pos oo ho mk sn none).step = S2 x s frs wt 19 pos oo ho mk sn' (some false) := by
  refine ⟨sn.add 16, ?_⟩
  by_cases hl : pos < x.size
  · have h : (x.getD pos 0 == 10) = false := by cases q : x.getD pos 0 == 10 with | false => rfl | true => exact absurd ⟨hl, q⟩ h
    cases frs <;>
    · show (if pos ≥ x.size then _ else match (Except.ok (x.getD pos 0 == 10, sn.add 16) : Except String (Bool × Sre.Seen)) with | .error why => _ | .ok (false, seen) => _ | .ok (true, seen) => _ : SM) = _
      rw [if_neg (by ktn_no "om"), h]; rfl
  · cases frs <;>
    · show (if pos ≥ x.size then _ else _ : SM) = _
      rw [if_pos (by ktn_no "om")]; rfl
theorem s2_lit24 (hl : pos < x.size) (h : (x.getD pos 0 == 13) = true) : ∃ sn', (S2 x s frs wt 24 pos oo ho mk sn none).step = S2 x s frs wt 26 (pos + 1) oo ho mk sn' none := by
  refine ⟨sn.add 16, ?_⟩
  cases frs <;>
  · show (if pos ≥ x.size then _ else match (Except.ok (x.getD pos 0 == 13, sn.add 16) : Except String (Bool × Sre.Seen)) with | .error why => _ | .ok (false, seen) => _ | .ok (true, seen) => _ : SM) = _
    rw [if_neg (by ktn_no "om"), h]; rfl
theorem s2_lit29_no (h : ¬ (pos < x.size ∧ (x.getD pos 0 == 10) = true)) : ∃ sn', (S2 x s frs wt 29 pos oo ho mk sn none).step = S2 x s frs wt 29 pos oo ho mk sn' (some false) := by
  refine ⟨sn.add 16, ?_⟩
  by_cases hl : pos < x.size
  · have h : (x.getD pos 0 == 10) = false := by cases q : x.getD pos 0 == 10 with | false => rfl | true => exact absurd ⟨hl, q⟩ h
    cases frs <;>
    · show (if pos ≥ x.size then _ else match (Except.ok (x.getD pos 0 == 10, sn.add 16) : Except String (Bool × Sre.Seen)) with | .error why => _ | .ok (false, seen) => _ | .ok (true, seen) => _ : SM) = _
      rw [if_neg (by ktn_no "om"), h]; rfl
  · cases frs <;>
    · show (if pos ≥ x.size then _ else _ : SM) = _
      rw [if_pos (by ktn_no "om")]; rfl
end

end
section
open PySem.Builtin.Re
noncomputable def nl (c : Nat) : Bool := c == 10 || c == 13
noncomputable def end2 (x : Array Nat) (t : Nat) : Nat := if x.getD t 0 == 13 ∧ (t + 1 < x.size ∧ (x.getD (t + 1) 0 == 10) = true) then t + 2 else t + 1
section
variable {x : Array Nat} {s t pc pos : Nat} {fo f1 oo : Bool} {ho : Nat} {mk : Array (Option Nat)} {sn : Sre.Seen} {r : Option (Nat × Nat)} {n wt : Nat} {frs : List Sre.Frame}
theorem attempt2 (hl : t < x.size) (h : nl (x.getD t 0) = true) : Ends (S2 x t [NS t fo] 1 10 t oo ho mk sn none) 30 (some (t, end2 x t)) := by
  obtain ⟨sn1, e1⟩ := s2_branch (x := x) (s := t) (t := t) (fo := fo) (pos := t) (oo := oo) (ho := ho) (mk := mk) (sn := sn)
  refine Ends.step (n := 29) ?_ rfl
  rw [e1]
  by_cases h13 : (x.getD t 0 == 13) = true
  · obtain ⟨sn2, e2⟩ := s2_lit12 (x := x) (s := t) (pos := t) (frs := [NB 11 t oo, NS t fo]) (wt := 2) (oo := oo) (ho := t) (mk := mk) (sn := sn1) hl h13
    refine Ends.step (n := 28) ?_ rfl
    rw [e2]
    by_cases h10 : t + 1 < x.size ∧ (x.getD (t + 1) 0 == 10) = true
    · have ee : end2 x t = t + 2 := if_pos ⟨h13, h10⟩
      obtain ⟨sn3, e3⟩ := s2_lit14 (x := x) (s := t) (pos := t + 1) (frs := [NB 11 t oo, NS t fo]) (wt := 2) (oo := oo) (ho := t) (mk := mk) (sn := sn2) h10.1 h10.2
      refine Ends.step (n := 27) ?_ rfl
      rw [e3]
      obtain ⟨sn4, e4⟩ := s2_jump16 (x := x) (s := t) (pos := t + 1 + 1) (frs := [NB 11 t oo, NS t fo]) (wt := 2) (oo := oo) (ho := t) (mk := mk) (sn := sn3)
      refine Ends.step (n := 26) ?_ rfl
      rw [e4]
      obtain ⟨sn5, e5⟩ := s2_ok (x := x) (s := t) (pos := t + 1 + 1) (frs := [NB 11 t oo, NS t fo]) (wt := 2) (oo := oo) (ho := t) (mk := mk) (sn := sn4)
      refine Ends.step (n := 25) ?_ rfl
      rw [e5, ee]
      exact Ends.mono s2_true (by ktn_no "om")
    · have ee : end2 x t = t + 1 := if_neg (fun z => h10 z.2)
      obtain ⟨sn3, e3⟩ := s2_lit14_no (x := x) (s := t) (pos := t + 1) (frs := [NB 11 t oo, NS t fo]) (wt := 2) (oo := oo) (ho := t) (mk := mk) (sn := sn2) h10
      refine Ends.step (n := 27) ?_ rfl
      rw [e3]
      refine Ends.step (n := 26) ?_ rfl
      rw [s2_alt2]
      have hn10 : ¬ (t < x.size ∧ (x.getD t 0 == 10) = true) := fun z => by
        have a := eq_of_beq h13
        have b := eq_of_beq z.2
        rw [a] at b; cases b
      obtain ⟨sn4, e4⟩ := s2_lit19_no (x := x) (s := t) (pos := t) (frs := [NB 18 t oo, NS t fo]) (wt := 2) (oo := oo) (ho := t) (mk := mk) (sn := sn3) hn10
      refine Ends.step (n := 25) ?_ rfl
      rw [e4]
      refine Ends.step (n := 24) ?_ rfl
      rw [s2_alt3]
      obtain ⟨sn5, e5⟩ := s2_lit24 (x := x) (s := t) (pos := t) (frs := [NB 23 t oo, NS t fo]) (wt := 2) (oo := oo) (ho := t) (mk := mk) (sn := sn4) hl h13
      refine Ends.step (n := 23) ?_ rfl
      rw [e5]
      obtain ⟨sn6, e6⟩ := s2_look (x := x) (s := t) (t := t) (f1 := oo) (fo := fo) (pos := t + 1) (oo := oo) (ho := t) (mk := mk) (sn := sn5)
      refine Ends.step (n := 22) ?_ rfl
      rw [e6]
      obtain ⟨sn7, e7⟩ := s2_lit29_no (x := x) (s := t) (pos := t + 1) (frs := [LN (t + 1) oo, NB 23 t oo, NS t fo]) (wt := 3) (oo := false) (ho := t + 1) (mk := mk) (sn := sn6) h10
      refine Ends.step (n := 21) ?_ rfl
      rw [e7]
      refine Ends.step (n := 20) ?_ rfl
      rw [s2_look_no]
      obtain ⟨sn8, e8⟩ := s2_jump32 (x := x) (s := t) (pos := t + 1) (frs := [NB 23 t oo, NS t fo]) (wt := 2) (oo := oo) (ho := t + 1) (mk := mk) (sn := sn7)
      refine Ends.step (n := 19) ?_ rfl
      rw [e8]
      obtain ⟨sn9, e9⟩ := s2_ok (x := x) (s := t) (pos := t + 1) (frs := [NB 23 t oo, NS t fo]) (wt := 2) (oo := oo) (ho := t + 1) (mk := mk) (sn := sn8)
      refine Ends.step (n := 18) ?_ rfl
      rw [e9, ee]
      exact Ends.mono s2_true (by ktn_no "om")
  · have h10 : (x.getD t 0 == 10) = true := by
      unfold nl at h
      cases q : x.getD t 0 == 10 with
      | true => rfl
      | false => rw [q] at h; exact absurd (by simpa using h) (by simpa using h13)
    have ee : end2 x t = t + 1 := if_neg (fun z => h13 z.1)
    obtain ⟨sn2, e2⟩ := s2_lit12_no (x := x) (s := t) (pos := t) (frs := [NB 11 t oo, NS t fo]) (wt := 2) (oo := oo) (ho := t) (mk := mk) (sn := sn1) (fun z => h13 z.2)
    refine Ends.step (n := 28) ?_ rfl
    rw [e2]
    refine Ends.step (n := 27) ?_ rfl
    rw [s2_alt2]
    obtain ⟨sn3, e3⟩ := s2_lit19 (x := x) (s := t) (pos := t) (frs := [NB 18 t oo, NS t fo]) (wt := 2) (oo := oo) (ho := t) (mk := mk) (sn := sn2) hl h10
    refine Ends.step (n := 26) ?_ rfl
    rw [e3]
    obtain ⟨sn4, e4⟩ := s2_jump21 (x := x) (s := t) (pos := t + 1) (frs := [NB 18 t oo, NS t fo]) (wt := 2) (oo := oo) (ho := t) (mk := mk) (sn := sn3)
    refine Ends.step (n := 25) ?_ rfl
    rw [e4]
    obtain ⟨sn5, e5⟩ := s2_ok (x := x) (s := t) (pos := t + 1) (frs := [NB 18 t oo, NS t fo]) (wt := 2) (oo := oo) (ho := t) (mk := mk) (sn := sn4)
    refine Ends.step (n := 24) ?_ rfl
    rw [e5, ee]
    exact Ends.mono s2_true (by ktn_no "om")
theorem inSet2 (c : Nat) (sn : Sre.Seen) : ∃ sn', Sre.inSet code2 c 36 5 true sn = .ok (nl c, sn') := by
  unfold nl
  cases h1 : c == 10 with
  | true =>
    refine ⟨sn.add 16, ?_⟩
    show (if (c == 10) = true then _ else _ : Except String (Bool × Sre.Seen)) = _
    rw [h1]; rfl
  | false =>
    cases h2 : c == 13 with
    | true =>
      refine ⟨(sn.add 16).add 16, ?_⟩
      show (if (c == 10) = true then _ else (if (c == 13) = true then _ else _) : Except String (Bool × Sre.Seen)) = _
      rw [h1, h2]; rfl
    | false =>
      refine ⟨((sn.add 16).add 16).add 0, ?_⟩
      show (if (c == 10) = true then _ else (if (c == 13) = true then _ else _) : Except String (Bool × Sre.Seen)) = _
      rw [h1, h2]; rfl
noncomputable def first2 (x : Array Nat) : Nat → Nat → Option Nat
  | 0, _ => none
  | k + 1, s => if s ≥ x.size then none else if nl (x.getD s 0) then some s else first2 x k (s + 1)
theorem admitted2 {m : SM} (h1 : m.code = code2) (h2 : m.text = x) (h3 : m.lim = x.size) : ∀ (k s : Nat) (sn : Sre.Seen), ∃ sn', Sre.M.admitted m k s sn = .ok (first2 x k s, sn')
  | 0, s, sn => ⟨sn, rfl⟩
  | k + 1, s, sn => by
    unfold Sre.M.admitted first2
    rw [h1, h2, h3]
    by_cases h : s ≥ x.size
    · rw [if_pos h, if_pos h]; exact ⟨sn, rfl⟩
    · rw [if_neg h, if_neg h]
      obtain ⟨sn', e⟩ := inSet2 (x.getD s 0) sn
      rw [show code2.size = 36 from rfl, e]
      cases hn : nl (x.getD s 0) with
      | true => exact ⟨sn', by rw [if_pos rfl]⟩
      | false =>
        rw [if_neg (by decide)]
        exact admitted2 h1 h2 h3 k (s + 1) sn'
theorem first2_spec : ∀ (k s t : Nat), first2 x k s = some t → s ≤ t ∧ t < x.size ∧ nl (x.getD t 0) = true
  | 0, _, _, h => by cases h
  | k + 1, s, t, h => by
    unfold first2 at h
    split at h
    · cases h
    · split at h
      · cases h; exact ⟨Nat.le_refl _, by (first | lia | omega), by assumption⟩
      · (refine x0_3 (first2_spec k (s + 1) t h) ?_; intro a b c)
        exact ⟨by (first | lia | omega), b, c⟩
noncomputable def find2 (x : Array Nat) (s : Nat) : Option (Nat × Nat) := if s < x.size then (first2 x (x.size + 1 - s) s).map fun t => (t, end2 x t) else none
theorem search2_from {must : Bool} (hs : s ≤ x.size) : Ends (Sre.forSearch code2 x 0 s x.size must) 40 (find2 x s) := by
  unfold find2
  by_cases h : s < x.size
  · rw [if_pos h]
    have e : Sre.forSearch code2 x 0 s x.size must = _ := show (if (decide (s > x.size) || decide (x.size - s < 1)) = true then _ else Sre.M.attemptFrom { code := code2, text := x, lim := x.size, start := s, pc := 10, pos := s, handed := s, marks := Array.replicate (2 * 0) none, mustAdvance := must, seen := ({} : Sre.Seen).add 14, lastStart := x.size } s true : SM) = _ by rw [if_neg (by simp; (first | lia | omega))]
    rw [e]
    unfold Sre.M.attemptFrom
    rw [if_neg (by show ¬ (!true) = true; decide)]
    obtain ⟨sn', ea⟩ := admitted2 (x := x) (m := { code := code2, text := x, lim := x.size, start := s, pc := 10, pos := s, handed := s, marks := Array.replicate (2 * 0) none, mustAdvance := must, seen := ({} : Sre.Seen).add 14, lastStart := x.size }) rfl rfl rfl (x.size + 1 - s) s (({} : Sre.Seen).add 14)
    dsimp only at ea ⊢
    rw [ea]
    cases hf : first2 x (x.size + 1 - s) s with
    | none => exact Ends.mono (n := 1) rfl (by ktn_no "om")
    | some t =>
      (refine x0_3 (first2_spec _ _ _ hf) ?_; intro a b c)
      dsimp only [Option.map]
      have := attempt2 (x := x) (t := t) (fo := true) (oo := true) (ho := t) (mk := Array.replicate (2 * 0) none) (sn := sn') b c
      exact Ends.mono (n := 30) this (by ktn_no "om")
  · rw [if_neg h]
    have e : Sre.forSearch code2 x 0 s x.size must = _ := show (if (decide (s > x.size) || decide (x.size - s < 1)) = true then _ else _ : SM) = _ by rw [if_pos (by simp; (first | lia | omega))]
    rw [e]
    exact Ends.mono (n := 1) rfl (by ktn_no "om")
end

end
section
open PySem.Builtin.Re
noncomputable abbrev a_re1 : Addr := 225
noncomputable abbrev a_re2 : Addr := 230
section
variable {w : World} {A : Around} {E : Value → Shared → Prop} {h : Heap} {g : Array GenState} {d : Drawn} {tk : Nat} {os : OsState} {x rp : PySem.Str} {tx tr : Tok}
noncomputable def fldsOf (o : Obj) : Array Value := match o.data with | .fields vs => vs | _ => #[]
noncomputable def seqOf (o : Obj) : Array Value := match o.data with | .seq vs _ => vs | _ => #[]
noncomputable def seqN (o : Obj) : Nat := match o.data with | .seq _ n => n | _ => 0
noncomputable def refOf (v : Value) : Addr := match v with | .ref a => a | _ => 0
/-- a pattern object: its words -/
structure Pat (h : Heap) (p : Addr) (code : Array Nat) : Prop where
  obj : ∃ o vs ct, h.get? p = some o ∧ o.cls = .type "re.Pattern" ∧ o.dict = none ∧ o.data = .fields vs ∧ reRawNat (vs.getD 6 .none) = 0 ∧ reRawNat (vs.getD 2 .none) = 0 ∧ vs.getD 5 .none = .ref ct ∧ ∃ oc ws n, h.get? ct = some oc ∧ oc.data = .seq ws n ∧ (ws.map reRawOf).map (·.toNat) = code
theorem get_K {P : Params} {a : Addr} (e : ((KF P).lookup a).isSome = true) : (KF P).lookup a = some ((KF P).lookup a).get! := by
  cases q : (KF P).lookup a with
  | none => rw [q] at e; cases e
  | some o => rfl
theorem pat_of {p : Addr} {code : Array Nat} (X : (KF w.params).In h) (h1 : ((KF w.params).lookup p).isSome = true) (h2 : ((KF w.params).lookup p).get!.cls = .type "re.Pattern") (h3 : ((KF w.params).lookup p).get!.dict = none) (h4 : ((KF w.params).lookup p).get!.data = .fields (fldsOf ((KF w.params).lookup p).get!))
    (h5 : reRawNat ((fldsOf ((KF w.params).lookup p).get!).getD 6 .none) = 0) (h6 : reRawNat ((fldsOf ((KF w.params).lookup p).get!).getD 2 .none) = 0) (ct : Addr) (h7 : (fldsOf ((KF w.params).lookup p).get!).getD 5 .none = .ref ct) (h8 : ((KF w.params).lookup ct).isSome = true) (h9 : ((KF w.params).lookup ct).get!.data = .seq (seqOf ((KF w.params).lookup ct).get!) (seqN ((KF w.params).lookup ct).get!))
    (h10 : ((seqOf ((KF w.params).lookup ct).get!).map reRawOf).map (·.toNat) = code) : Pat h p code :=
  ⟨_, _, ct, X _ _ (get_K h1), h2, h3, h4, h5, h6, h7, _, _, _, X _ _ (get_K h8), h9, h10⟩
theorem pat1 (X : (KF w.params).In h) : Pat h a_re1 code1 := pat_of X (by kernel_rfl) (by kernel_rfl) (by kernel_rfl) (by kernel_rfl) (by kernel_rfl) (by kernel_rfl) 224 (by kernel_rfl) (by kernel_rfl) (by kernel_rfl) (by kernel_rfl)
theorem pat2 (X : (KF w.params).In h) : Pat h a_re2 code2 := pat_of X (by kernel_rfl) (by kernel_rfl) (by kernel_rfl) (by kernel_rfl) (by kernel_rfl) (by kernel_rfl) 229 (by kernel_rfl) (by kernel_rfl) (by kernel_rfl) (by kernel_rfl)
theorem re_target {p : Addr} {code : Array Nat} {Q : ReTarget → Shared → Prop} (P : Pat h p code) (q : Q ⟨.ref p, .str x tx, code, x.cps, 0, 0, 0, x.cps.size⟩ ⟨h, g, d, tk, os⟩) : wpAny (M w) A (reWholeTarget (.ref p) (.str x tx)) Q E ⟨h, g, d, tk, os⟩ := by
  obtain ⟨o, vs, ct, hp, hc, hd, hf, h6, h2, h5, oc, ws, n, hct, hws, hw⟩ := P.obj
  unfold reWholeTarget reTextOf reNoCollectionInside reRawItems
  refine wpAny_bind (wpAny_fieldsOf hp hf ?_)
  refine wpAny_bind (wpAny_bind (wpAny_of_eq (show asStr? (.str x tx) = pure (some x) from rfl) (wpAny_pure ?_)))
  dsimp only
  rw [h6, h2, h5]
  rw [if_neg (by decide), if_neg (by decide), if_neg (by decide)]
  refine wpAny_bind (wpAny_pure (wpAny_bind (wpAny_bind (wpAny_seqItems hct hws (wpAny_pure (wpAny_pure ?_))))))
  have e : Array.map (fun x => x.toNat) (Array.map reRawOf ((some ws).getD #[])) = code := hw
  rw [e]
  exact q
/-- the pieces of a text in which all that is found is replaced -/
noncomputable def subGo (find : Nat → Option (Nat × Nat)) (x rp : PySem.Str) : Nat → Nat → List PySem.Str
  | 0, _ => []
  | k + 1, dn => match find dn with
    | some (a, b) => (if dn < a then [⟨x.cps.extract dn a⟩] else []) ++ rp :: subGo find x rp k b
    | none => if dn < x.cps.size then [⟨x.cps.extract dn x.cps.size⟩] else []
variable {B : Heap} {L : Addr} {m : PySem.Str → Option Value} {cl : List (PySem.Str × Addr)} {cm : PySem.Str → Option Value} {rest : List (Addr × Obj)} {s₀ : Shared} {d₀ : Drawn} {tk₀ : Nat} {p lp : Addr} {code : Array Nat} {find : Nat → Option (Nat × Nat)} {N : Nat} {R : Result → Shared → Prop}
theorem push_piece {l : List (PySem.Str × Tok)} {nl : Nat} {z : PySem.Str} {t : Tok} {Q : Unit → Shared → Prop} (F : Fm w B L cl s₀ m cm ((lp, lsO (strValues l) nl) :: rest) ⟨h, g, d₀, tk₀, os⟩) (hz : l.length ≤ 100000)
    (q : ∀ h' nl', Fm w B L cl s₀ m cm ((lp, lsO (strValues (l ++ [(z, t)])) nl') :: rest) ⟨h', g, d, tk, os⟩ → Q () ⟨h', g, d, tk, os⟩) : wpAny (M w) A (updateSeq lp (·.push (.str z t))) Q E ⟨h, g, d, tk, os⟩ := by
  refine st_updateSeq (F.at 0 rfl) (by simpa [strValues] using hz) (by simp [strValues]; (first | lia | omega)) fun h' n' hs hx => ?_
  have e : (strValues l).toArray.push (.str z t) = (strValues (l ++ [(z, t)])).toArray := by simp [strValues]
  exact q h' n' (F.set1 (i := 0) (o' := ⟨.type "list", none, .seq (strValues (l ++ [(z, t)])).toArray n', #[]⟩) rfl hs (by rw [← e]; exact hx))
theorem re_slice {a b : Nat} {Q : Value → Shared → Prop} (hx : x.length ≤ 100000) (q : Q (.str ⟨x.cps.extract a b⟩ tk) ⟨h, g, d, tk + 1, os⟩) : wpAny (M w) A (reSlice x.cps 0 a b) Q E ⟨h, g, d, tk, os⟩ := by
  unfold reSlice
  rw [if_pos (by decide)]
  refine wpAny_mkStr' q (Nat.le_trans ?_ (Nat.le_trans hx (by decide)))
  show (x.cps.extract a b).size ≤ x.cps.size
  simp; (first | lia | omega)
theorem sub_loop (hP : ∀ h, (KF w.params).In h → Pat h p code) (hcl : A.units < cLine) (hx : x.length ≤ 20000) (hN : N ≤ 2 ^ 64)
    (hf : ∀ (dn : Nat) (must : Bool), dn ≤ x.cps.size → Ends (Sre.forSearch code x.cps 0 dn x.cps.size must) N (find dn)) (hfb : ∀ dn a b, find dn = some (a, b) → dn ≤ a ∧ a < b ∧ b ≤ x.cps.size) :
    ∀ (k dn : Nat) (l : List (PySem.Str × Tok)) (nl cnt : Nat) (must : Bool) (h : Heap) (g : Array GenState) (d : Drawn) (tk : Nat), dn ≤ x.cps.size → x.cps.size < dn + k → l.length ≤ 2 * dn → Fm w B L cl s₀ m cm ((lp, lsO (strValues l) nl) :: rest) ⟨h, g, d₀, tk₀, os⟩ →
      JoinOk ⟨#[]⟩ (l.map (·.1) ++ subGo find x rp k dn) = true →
      (∀ h' tk' t, Fm w B L cl s₀ m cm rest ⟨h', g, d, tk', os⟩ → R (.ok (.ret (.str (Txt.join ⟨#[]⟩ (l.map (·.1) ++ subGo find x rp k dn)) t))) ⟨h', g, d, tk', os⟩) →
      codeAny (M w) A (.builtin "re.Pattern.sub.loop" ⟨[.ref p, .str x tx, .str rp tr, rawInt 0, rawInt 0, rawInt cnt, rawInt dn, rawInt dn, .bool must, .ref lp, .bool false], []⟩) R ⟨h, g, d, tk, os⟩
  | 0, dn, l, nl, cnt, must, h, g, d, tk, h1, h2, h3, F, hj, hq => by (first | lia | omega)
  | k + 1, dn, l, nl, cnt, must, h, g, d, tk, h1, h2, h3, F, hj, hq => by
    refine codeAny_builtin (entryFor_of_tree (by kernel_rfl) : entryFor table "re.Pattern.sub.loop" = some Builtin.«re.Pattern.sub.loop») ?_
    rw [Around.under_plainId (by decide +kernel) _]
    unfold Builtin.«re.Pattern.sub.loop»
    dsimp only [rawInt]
    refine wpAny_bind (re_target (hP _ F.K) ?_)
    rw [if_pos (by decide)]
    unfold reLiteralCannotBeTurned
    refine wpAny_bind (wpAny_bind (wpAny_of_eq (show asStr? (.str rp tr) = pure (some rp) from rfl) ?_))
    rw [if_neg (show ¬ ((some rp).isNone) = true from Bool.false_ne_true)]
    refine wpAny_pure ?_
    refine wpAny_bind ?_
    rw [if_neg (by simp)]
    unfold reNextFound
    simp only [Int.toNat_natCast]
    refine runEnd (hf dn must h1) hN fun o ho => ?_
    cases hfd : find dn with
    | none =>
      rw [hfd] at ho
      dsimp only at ho
      subst ho
      dsimp only
      have fin : ∀ (l' : List (PySem.Str × Tok)) (nl' : Nat) (h' : Heap) (tk' : Nat), l'.map (·.1) = l.map (·.1) ++ subGo find x rp (k + 1) dn → Fm w B L cl s₀ m cm ((lp, lsO (strValues l') nl') :: rest) ⟨h', g, d, tk', os⟩ →
          wpAny (model pw w) A.in1 (do
            let joiner ← reSlice x.cps 0 0 0
            let __do_lift ← seqItems? (Value.ref lp)
            if (__do_lift.getD #[]).isEmpty = true then do
              let text ← pure joiner
              if false = true then do
                let __do_lift ← holding [text] do
                    let __do_lift ← mkInt ↑cnt
                    newTuple [text, __do_lift]
                ret __do_lift
              else ret text
            else do
              let text ← call (Value.builtin (if ((0 : Nat) == 0) = true then "str.join" else "bytes.join")) [joiner, Value.ref lp]
              if false = true then do
                let __do_lift ← holding [text] do
                    let __do_lift ← mkInt ↑cnt
                    newTuple [text, __do_lift]
                ret __do_lift
              else ret text)
            (fun fin s' => match fin with
              | Fin.done f => R (Except.ok f) s'
              | Fin.again c' => c'.quiet = true ∧ codeAny (model pw w) A c' R s')
            (fun e s' => R (Except.error e) s') ⟨h', g, d, tk', os⟩ := fun l' nl' h' tk' hl' F' => by
        refine wpAny_bind (re_slice (by ktn_no "om") ?_)
        refine wpAny_bind (wpAny_seqItems (F'.at 0 rfl) rfl ?_)
        have ej : (⟨x.cps.extract 0 0⟩ : PySem.Str) = ⟨#[]⟩ := by simp
        rw [ej]
        cases hl0 : l' with
        | nil =>
          subst hl0
          rw [if_pos (show ((some (strValues []).toArray).getD #[]).isEmpty = true from rfl)]
          refine wpAny_bind (wpAny_pure ?_)
          rw [if_neg (by decide)]
          have := hq h' (tk' + 1) tk' ((F'.drop 1).withD)
          rw [← hl'] at this
          exact wpAny_pure this
        | cons y l2 =>
          rw [if_neg (by simp [strValues])]
          refine wpAny_bind ?_
          rw [if_pos (show ((0 : Nat) == 0) = true from rfl)]
          refine join_tup (F'.at 0 rfl) (.inl rfl) rfl (by rw [hl']; exact hj) fun t' k' => ?_
          rw [if_neg (by decide), hl']
          exact wpAny_pure (hq h' k' t' ((F'.drop 1).withD))
      have eg : subGo find x rp (k + 1) dn = if dn < x.cps.size then [⟨x.cps.extract dn x.cps.size⟩] else [] := by unfold subGo; rw [hfd]
      by_cases hlt : dn < x.cps.size
      · rw [if_pos hlt]
        rw [if_pos hlt] at eg
        refine wpAny_bind (re_slice (by ktn_no "om") ?_)
        have hxs : x.length = x.cps.size := rfl
        refine wpAny_bind (push_piece F (by ktn_no "om") fun h' nl' F' => ?_)
        exact fin _ _ _ _ (by rw [eg]; simp) F'
      · rw [if_neg hlt]
        rw [if_neg hlt] at eg
        exact fin _ _ _ _ (by rw [eg]; simp) F.withD
    | some ab =>
      obtain ⟨a, b⟩ := ab
      rw [hfd] at ho
      (refine x1_3 (ho) ?_; try clear ho; intro m' eqX1 eqX2 eqX3; subst eqX1; subst eqX2; subst eqX3)
      (refine x0_3 (hfb dn _ _ hfd) ?_; intro q1 q2 q3)
      have hxs : x.length = x.cps.size := rfl
      have eg : subGo find x rp (k + 1) dn = (if dn < m'.start then [⟨x.cps.extract dn m'.start⟩] else []) ++ rp :: subGo find x rp k m'.handed := by conv => lhs; unfold subGo; rw [hfd]
      dsimp only
      by_cases hlt : dn < m'.start
      · rw [if_pos hlt] at eg ⊢
        refine wpAny_bind (re_slice (by ktn_no "om") ?_)
        refine wpAny_bind (push_piece F (by ktn_no "om") fun h' nl' F' => ?_)
        rw [if_pos (by decide)]
        refine wpAny_bind (wpAny_pure ?_)
        rw [if_pos (show (Value.str rp tr != Value.none) = true from rfl)]
        refine wpAny_bind (push_piece F' (by simp; (first | lia | omega)) fun h'' nl'' F'' => ?_)
        refine wpAny_pure ⟨plainId_quiet (by decide +kernel) _, ?_⟩
        refine sub_loop hP hcl hx hN hf hfb k m'.handed (l ++ [(⟨x.cps.extract dn m'.start⟩, tk)] ++ [(rp, tr)]) nl'' (cnt + 1) _ _ _ _ _ q3 (by ktn_no "om") (by simp; (first | lia | omega)) F''.withD (by rw [eg] at hj; simpa using hj) fun h3 tk3 t3 F3 => ?_
        have := hq h3 tk3 t3 F3
        rw [eg] at this
        simpa using this
      · rw [if_neg hlt] at eg ⊢
        rw [if_pos (by decide)]
        refine wpAny_bind (wpAny_pure ?_)
        rw [if_pos (show (Value.str rp tr != Value.none) = true from rfl)]
        refine wpAny_bind (push_piece F (by ktn_no "om") fun h'' nl'' F'' => ?_)
        refine wpAny_pure ⟨plainId_quiet (by decide +kernel) _, ?_⟩
        refine sub_loop hP hcl hx hN hf hfb k m'.handed (l ++ [(rp, tr)]) nl'' (cnt + 1) _ _ _ _ _ q3 (by ktn_no "om") (by simp; (first | lia | omega)) F''.withD (by rw [eg] at hj; simpa using hj) fun h3 tk3 t3 F3 => ?_
        have := hq h3 tk3 t3 F3
        rw [eg] at this
        simpa using this
end

end
section
open PySem.Builtin.Re
section
variable {w : World} {A : Around} {E : Value → Shared → Prop} {h : Heap} {g : Array GenState} {d : Drawn} {tk : Nat} {os : OsState} {x rp : PySem.Str} {tx tr : Tok} {B : Heap} {L : Addr} {m : PySem.Str → Option Value} {cl : List (PySem.Str × Addr)} {cm : PySem.Str → Option Value} {rest : List (Addr × Obj)} {s₀ : Shared} {d₀ : Drawn} {tk₀ : Nat} {p : Addr} {code : Array Nat} {find : Nat → Option (Nat × Nat)} {N : Nat} {Q : Value → Shared → Prop}
theorem re_sub (hP : ∀ h, (KF w.params).In h → Pat h p code) (hcl : A.units < cLine) (hx : x.length ≤ 20000) (hN : N ≤ 2 ^ 64) (hrp : rp.cps.contains 92 = false)
    (hf : ∀ (dn : Nat) (must : Bool), dn ≤ x.cps.size → Ends (Sre.forSearch code x.cps 0 dn x.cps.size must) N (find dn)) (hfb : ∀ dn a b, find dn = some (a, b) → dn ≤ a ∧ a < b ∧ b ≤ x.cps.size)
    (F : Fm w B L cl s₀ m cm rest ⟨h, g, d₀, tk₀, os⟩) (hj : JoinOk ⟨#[]⟩ (subGo find x rp (x.cps.size + 1) 0) = true)
    (hq : ∀ h' tk' t, Fm w B L cl s₀ m cm rest ⟨h', g, d, tk', os⟩ → Q (.str (Txt.join ⟨#[]⟩ (subGo find x rp (x.cps.size + 1) 0)) t) ⟨h', g, d, tk', os⟩) :
    wpAny (M w) A (call (.builtin "re.Pattern.sub") [.ref p, .str rp tr, .str x tx]) Q E ⟨h, g, d, tk, os⟩ := by
  have P := hP h F.K
  obtain ⟨o, vs, ct, hp, hc, hd, hfl, h6, h2, h5, oc, ws, n, hct, hws, hw⟩ := P.obj
  have hi : Looks (model pw w) h (isInstance (.ref p) (.type "re.Pattern")) true := looks_inst hp F.K (by rw [hc]; ktn_no "k_ev")
  refine wpAny_call (codeAny_call_builtin (by decide +kernel) (entryFor_of_tree (by kernel_rfl) : entryFor table "re.Pattern.sub" = some Builtin.«re.Pattern.sub») (check_bi (owner := "re.Pattern") (n := "sub") (by first | exact .inr (by decide +kernel) | exact .inl (by decide +kernel)) (by decide +kernel) hi (by unfold argsOk; kernel_rfl) ?_))
  unfold Builtin.«re.Pattern.sub» reSubstitute
  dsimp only
  refine wpAny_bind (wpAny_of_eq (show reNamed "re.Pattern.sub" "sub" ["repl", "string", "count"] 2 [.str rp tr, .str x tx] [] = pure [some (.str rp tr), some (.str x tx), none] from by kernel_rfl) ?_)
  dsimp only
  refine wpAny_bind (wpAny_pure (wpAny_bind ?_))
  refine st_specialK F.K (r := none) (by ktn_no "k_ev") ?_
  rw [if_neg (by decide)]
  refine wpAny_bind (wpAny_of_eq (show asStr? (.str rp tr) = pure (some rp) from rfl) ?_)
  dsimp only
  refine wpAny_bind (wpAny_pure ?_)
  rw [if_neg (by decide), hrp, if_pos (by decide)]
  refine wpAny_bind (wpAny_pure (wpAny_bind (wpAny_holding (re_target P ?_))))
  dsimp only
  rw [if_neg (by decide)]
  refine wpAny_bind (st_newList (by simp) ?_)
  have F₁ := F.push1 (g := g) (d := d) (tk := tk) (lsO [] 0)
  refine wpAny_pure ⟨plainId_quiet (by decide +kernel) _, ?_⟩
  refine sub_loop hP hcl hx hN hf hfb (x.cps.size + 1) 0 [] 0 0 false _ _ _ _ (Nat.zero_le _) (by ktn_no "om") (by simp) F₁ (by simpa using hj) fun h' tk' t F' => ?_
  exact hq h' tk' t F'
end

end
section
open PySem.Builtin.Re
noncomputable def find1' (x : Array Nat) (s : Nat) : Option (Nat × Nat) := if s < x.size then find1 x (x.size - s + 1) s else none
theorem find1_b (x : Array Nat) : ∀ k s a b, find1 x k s = some (a, b) → s ≤ a ∧ a < b ∧ b ≤ x.size
  | 0, _, _, _, h => by cases h
  | k + 1, s, a, b, h => by
    unfold find1 at h
    split at h
    · rename_i hh
      cases h
      have : s < x.size := by
        unfold hit1 at hh
        simp only [Bool.and_eq_true, decide_eq_true_eq] at hh
        exact hh.2.1
      (first | lia | omega)
    · split at h
      · have := find1_b x k (s + 1) a b h; (first | lia | omega)
      · cases h
theorem find1'_b (x : Array Nat) (s a b : Nat) (h : find1' x s = some (a, b)) : s ≤ a ∧ a < b ∧ b ≤ x.size := by
  unfold find1' at h
  split at h
  · exact find1_b x _ _ _ _ h
  · cases h
theorem find2_b (x : Array Nat) (s a b : Nat) (h : find2 x s = some (a, b)) : s ≤ a ∧ a < b ∧ b ≤ x.size := by
  unfold find2 at h
  split at h
  · cases q : first2 x (x.size + 1 - s) s with
    | none => rw [q] at h; cases h
    | some t =>
      rw [q] at h
      (refine x0_3 (first2_spec _ _ _ q) ?_; intro c1 c2 c3)
      have h : some (t, end2 x t) = some (a, b) := h
      injection h with h
      injection h with ha hb
      subst ha
      rw [← hb]
      have e : end2 x t = t + 1 ∨ (end2 x t = t + 2 ∧ t + 1 < x.size) := by
        by_cases z : (x.getD t 0 == 13) = true ∧ (t + 1 < x.size ∧ (x.getD (t + 1) 0 == 10) = true)
        · exact .inr ⟨if_pos z, z.2.1⟩
        · exact .inl (if_neg z)
      (first | lia | omega)
  · cases h
noncomputable abbrev crlfS : PySem.Str := Str.ofString "\r\n"
noncomputable abbrev dotsS : PySem.Str := Str.ofString ".."
noncomputable def quote1 (x : PySem.Str) : PySem.Str := Txt.join ⟨#[]⟩ (subGo (find2 x.cps) x crlfS (x.cps.size + 1) 0)
noncomputable def quote2 (x : PySem.Str) : PySem.Str := Txt.join ⟨#[]⟩ (subGo (find1' x.cps) x dotsS (x.cps.size + 1) 0)
noncomputable def QOk (x : PySem.Str) : Prop := x.length ≤ 10000 ∧ JoinOk ⟨#[]⟩ (subGo (find2 x.cps) x crlfS (x.cps.size + 1) 0) = true ∧ (quote1 x).length ≤ 20000 ∧ JoinOk ⟨#[]⟩ (subGo (find1' (quote1 x).cps) (quote1 x) dotsS ((quote1 x).cps.size + 1) 0) = true
section
variable {w : World} {A : Around} {E : Value → Shared → Prop} {h : Heap} {g : Array GenState} {d : Drawn} {tk : Nat} {os : OsState} {x rp : PySem.Str} {tx tr : Tok} {B : Heap} {L : Addr} {m : PySem.Str → Option Value} {cl : List (PySem.Str × Addr)} {cm : PySem.Str → Option Value} {rest : List (Addr × Obj)} {s₀ s : Shared} {d₀ : Drawn} {tk₀ : Nat} {p : Addr} {code : Array Nat} {n : Nat}
theorem pat_method {Q : Value × List Value → Shared → Prop} {pl : Sem Bool} (X : (KF w.params).In h) (P : Pat h p code) (q : Q (.builtin "re.Pattern.sub", [.ref p]) ⟨h, g, d, tk, os⟩) : wpAny (M w) A (getMethod (.ref p) "sub" pl) Q E ⟨h, g, d, tk, os⟩ := by
  (refine x3_4 (P.obj) ?_; intro o vs ct hp hc hd _)
  unfold getMethod
  refine wpAny_bind (st_special hp X (r := some (.builtin "object.__getattribute__")) (by rw [hc]; ktn_no "k_ev") ?_)
  dsimp only
  rw [if_neg (by decide +kernel)]
  refine wpAny_bind (st_special hp X (r := none) (by rw [hc]; ktn_no "k_ev") ?_)
  rw [if_neg (by decide)]
  refine wpAny_bind (st_special hp X (r := some (.builtin "re.Pattern.sub")) (by rw [hc]; ktn_no "k_ev") ?_)
  dsimp only
  refine wpAny_bind (st_typeK X (t := .type "method_descriptor") (by ktn_no "k_ev") ?_)
  rw [if_neg (by decide)]
  refine wpAny_bind (wpAny_loadPart hp ?_)
  rw [hd]
  exact wpAny_bind (wpAny_rule (wpAny_pure q))
theorem quotedata_spec {Q : Value → Shared → Prop} (R : Room (n + 10) A) (F : Fm w B L cl s₀ m cm rest s) (hx : QOk x)
    (hq : ∀ t s', Fm w B L cl s₀ m cm rest s' → Q (.str (quote2 (quote1 x)) t) s') : wpAny (M w) A (call (.ref a_quotedata) [.str x tx] []) Q E s := by
  (refine x0_4 (hx) ?_; try clear hx; intro h1 h2 h3 h4)
  refine call_fn (binds := [("data", .str x tx)]) (fd := fd_quotedata) (cmF := fun _ => none) R F (lk_quotedata _) (cd_quotedata _) rfl (BindsTo.of_eq rfl) (by decide) (by kernel_rfl) (fun _ _ e => (by cases e)) (fun _ _ _ e => (by cases e)) ?_ rfl rfl rfl
  intro Qo hQo L' s₁ hL F₁ R₁
  obtain ⟨h₁, g₁, d₁, k₁, o₁⟩ := s₁
  ktn_no "ast"
  ktn_no "y"
  refine pat_method F₁.K (pat1 F₁.K) ?_
  ktn_no "y"
  refine pat_method F₁.K (pat2 F₁.K) ?_
  ktn_no "y"
  refine re_sub (N := 40) (find := find2 x.cps) (code := code2) (fun h X => pat2 X) R₁.cl (by ktn_no "om") (by decide) (by kernel_rfl) (fun dn must hd => search2_from hd) (fun dn a b => find2_b _ _ _ _) F₁ h2 fun h₂ k₂ t₂ F₂ => ?_
  ktn_no "y"
  refine re_sub (N := 5 * (quote1 x).cps.size + 20) (find := find1' (quote1 x).cps) (code := code1) (x := quote1 x) (fun h X => pat1 X) R₁.cl h3 ?_ (by kernel_rfl) (fun dn must hd => search1_from hd) (fun dn a b => find1'_b _ _ _ _) F₂ h4 fun h₃ k₃ t₃ F₃ => ?_
  · have : (quote1 x).cps.size = (quote1 x).length := rfl
    rw [this]
    exact Nat.le_trans (show _ ≤ 200000 by (first | lia | omega)) (by decide)
  exact hQo _ _ <| Back.of F₃ fun G => hq _ _ G
end

end
section
variable {w : World} {B : Heap} {L : Addr} {m : PySem.Str → Option Value} {cl : List (PySem.Str × Addr)} {cm : PySem.Str → Option Value} {own rest news : List (Addr × Obj)} {s₀ s : Shared} {A : Around} {E : Value → Shared → Prop} {Q : Value → Shared → Prop} {n : Nat}
theorem vf_make {mx : Int} {sc : PySem.Str} {t0 t1 t2 t4 : Tok} (R : Room (n + 20) A) (F : Fm w B L cl s₀ m cm rest s)
    (h : ∀ x own' s', VfP x mx sc [] [] own' → Fm w B L cl s₀ m cm (own' ++ rest) s' → Q (.ref x) s') :
   wpAny (M w) A (call (.ref a_VF) [.int 0 t0, .int mx t1, .str "" t2, .str sc t4] []) Q E s := by
  obtain ⟨h₁, g₁, d₁, k₁, o₁⟩ := s
  refine make_vf F.K ?_
  have F₁ := F.push (dictOf [] 0) (tk := k₁)
  have F₂ := F₁.push (vfO h₁.objs.size) (tk := k₁)
  rw [show (h₁.push (dictOf [] 0)).objs.size = h₁.objs.size + 1 from Heap.size_push _ _] at F₂
  exact vf_init (n := n) (rest := rest) (R.tc.less (by ktn_no "om")) F₂ fun own' s' P G => ⟨rfl, h _ _ _ P G⟩
end
/-- the turns of a list comprehension's clause d -/
noncomputable def CompC (w : World) (A : Around) (e : Expr) (d : Nat) (it acc : Value) (env : Env) (Q : Shared → Prop) (s : Shared) : Prop :=
  codeAny (M w) A (.compLoop e d it acc env) (fun r s' => match r with | .ok _ => Q s' | .error _ => False) s
noncomputable def CompS (w : World) (A : Around) (e : Expr) (d : Nat) (it acc : Value) (env : Env) (Q : Shared → Prop) (s : Shared) : Prop :=
  codeAny (M w) A (.compStart e d it acc env) (fun r s' => match r with | .ok _ => Q s' | .error _ => False) s
noncomputable abbrev ifsOk (env : Env) (ifs : List Expr) : Sem Bool := forIn ifs true fun c r => if r = true then do let ok ← isTrue c env (eval c env); pure (ForInStep.yield ok) else pure (ForInStep.yield r)
section
variable {w : World} {A : Around} {s : Shared} {elt target iter : Expr} {ifs : List Expr} {gens : List Comprehension} {scope : Scope} {pos : Pos} {it acc : Value} {d : Nat} {env : Env} {Q : Shared → Prop}
theorem comp_step (hg : gens[d]? = some ⟨target, iter, ifs, 0⟩) (hn : gens[d + 1]? = none) (h : wpAny (M w) A (pyNext it) (fun r s₁ => match r with
      | none => Q s₁
      | some v => wpAny (M w) A (letOwnedTupleGo target it v) (fun _ s₁' => wpAny (M w) A (assign target env v) (fun _ s₂ => wpAny (M w) A (ifsOk env ifs) (fun ok s₃ =>
          if ok = true then wpAny (M w) A (eval elt env) (fun y s₄ => wpAny (M w) A (call (.builtin "list.append") [acc, y]) (fun _ s₅ => CompC w A (.ListComp elt gens scope pos) d it acc env Q s₅) NoE s₄) NoE s₃
          else CompC w A (.ListComp elt gens scope pos) d it acc env Q s₃) NoE s₂) NoE s₁') NoE s₁) NoE s) : CompC w A (.ListComp elt gens scope pos) d it acc env Q s := by
  unfold CompC
  refine codeAny_of_tree ?_
  rw [Around.under_of_weight rfl]
  show wpAny _ A ((compTurn (.ListComp elt gens scope pos) d it acc env).onRaise (fun x => do noteFrame x env; theTreesLotGoes x)) _ _ s
  refine wpAny_onRaise ?_
  unfold compTurn
  dsimp only
  rw [hg, hn]
  refine wpAny_bind (wpAny_standAt (wpAny_bind (wpAny_mono h (fun r s₁ h₁ => ?_) fun _ _ z => z.elim)))
  cases r with
  | none => exact wpAny_pure h₁
  | some v =>
    refine wpAny_bind (wpAny_mono h₁ (fun _ s₁' h₁' => ?_) fun _ _ z => z.elim)
    refine wpAny_bind (wpAny_mono h₁' (fun _ s₂ h₂ => wpAny_bind (wpAny_mono h₂ (fun ok s₃ h₃ => ?_) fun _ _ z => z.elim)) fun _ _ z => z.elim)
    cases ok with
    | false => exact wpAny_pure ⟨rfl, h₃⟩
    | true =>
      refine wpAny_bind (wpAny_bind (wpAny_mono h₃ (fun y s₄ h₄ => ?_) fun _ _ z => z.elim))
      exact wpAny_bind (wpAny_mono h₄ (fun _ s₅ h₅ => wpAny_pure (wpAny_pure ⟨rfl, h₅⟩)) fun _ _ z => z.elim)
theorem comp_outer {target' iter' : Expr} {ifs' : List Expr} (hg : gens[d]? = some ⟨target, iter, ifs, 0⟩) (hn : gens[d + 1]? = some ⟨target', iter', ifs', 0⟩) (hs : ∀ x, foldedSetIterable iter' env x = pure x)
    (h : wpAny (M w) A (pyNext it) (fun r s₁ => match r with
      | none => Q s₁
      | some v => wpAny (M w) A (letOwnedTupleGo target it v) (fun _ s₁' => wpAny (M w) A (assign target env v) (fun _ s₂ => wpAny (M w) A (ifsOk env ifs) (fun ok s₃ =>
          if ok = true then wpAny (M w) A (eval iter' env) (fun x s₄ => wpAny (M w) A (pyIter x) (fun it' s₅ => CompS w A (.ListComp elt gens scope pos) (d + 1) it' acc env (fun s₆ => CompC w A (.ListComp elt gens scope pos) d it acc env Q s₆) s₅) NoE s₄) NoE s₃
          else CompC w A (.ListComp elt gens scope pos) d it acc env Q s₃) NoE s₂) NoE s₁') NoE s₁) NoE s) : CompC w A (.ListComp elt gens scope pos) d it acc env Q s := by
  unfold CompC
  refine codeAny_of_tree ?_
  rw [Around.under_of_weight rfl]
  show wpAny _ A ((compTurn (.ListComp elt gens scope pos) d it acc env).onRaise (fun x => do noteFrame x env; theTreesLotGoes x)) _ _ s
  refine wpAny_onRaise ?_
  unfold compTurn
  dsimp only
  rw [hg, hn]
  refine wpAny_bind (wpAny_standAt (wpAny_bind (wpAny_mono h (fun r s₁ h₁ => ?_) fun _ _ z => z.elim)))
  cases r with
  | none => exact wpAny_pure h₁
  | some v =>
    refine wpAny_bind (wpAny_mono h₁ (fun _ s₁' h₁' => ?_) fun _ _ z => z.elim)
    refine wpAny_bind (wpAny_mono h₁' (fun _ s₂ h₂ => wpAny_bind (wpAny_mono h₂ (fun ok s₃ h₃ => ?_) fun _ _ z => z.elim)) fun _ _ z => z.elim)
    cases ok with
    | false => exact wpAny_pure ⟨rfl, h₃⟩
    | true =>
      refine wpAny_bind (wpAny_mono h₃ (fun x s₄ h₄ => ?_) fun _ _ z => z.elim)
      refine wpAny_bind (wpAny_standAt ?_)
      dsimp only
      show wpAny _ A (foldedSetIterable iter' env x >>= _) _ _ _
      refine wpAny_bind (wpAny_of_eq (hs x) ?_)
      show wpAny _ A (holding [x] (pyIter x) >>= _) _ _ _
      refine wpAny_bind (wpAny_holding (wpAny_mono h₄ (fun it' s₅ h₅ => ?_) fun _ _ z => z.elim))
      refine wpAny_bind (wpAny_runOwn (codeAny_mono h₅ fun r s₆ h₆ => ?_))
      cases r with
      | ok f => exact wpAny_pure ⟨rfl, h₆⟩
      | error x => exact h₆.elim
theorem comp_start (hg : gens[d]? = some ⟨target, iter, ifs, 0⟩) (h0 : CompC w A (.ListComp elt gens scope pos) d it acc env Q s)
    (h : wpAny (M w) A (pyIter it) (fun it' s' => CompC w A (.ListComp elt gens scope pos) d it' acc env Q s') NoE s) : CompS w A (.ListComp elt gens scope pos) d it acc env Q s := by
  unfold CompS
  refine codeAny_of_tree ?_
  rw [Around.under_of_weight rfl]
  show wpAny _ A ((compStart (.ListComp elt gens scope pos) d it acc env).onRaise (fun x => do noteFrame x env; standAt theWindowsPlace)) _ _ s
  refine wpAny_onRaise ?_
  unfold compStart
  show wpAny _ _ (if (gens[d]?.elim false fun x => x.is_async != 0) = true then _ else _) _ _ s
  rw [hg]
  rw [if_neg (show ¬ ((some (Comprehension.mk target iter ifs 0)).elim false fun x => x.is_async != 0) = true from Bool.false_ne_true)]
  refine wpAny_bind (wpAny_askSetting (wpAny_ite ?_))
  split
  · exact wpAny_bind (wpAny_pure (wpAny_pure (And.intro rfl h0)))
  · refine wpAny_bind (wpAny_rule ?_)
    dsimp only [clausesOf]
    rw [hg]
    exact wpAny_bind (wpAny_standAt (wpAny_bind (wpAny_mono h (fun it' s' h' => wpAny_pure (And.intro rfl h')) fun _ _ z => z.elim)))
end
/-- the end of a comprehension's loop, in its own frame -/
noncomputable def LcB (w : World) (B : Heap) (L : Addr) (m : PySem.Str → Option Value) (cl : List (PySem.Str × Addr)) (cm : PySem.Str → Option Value) (news : List (Addr × Obj)) (s₀ s : Shared) (C : Addr) (Q : Shared → Prop) (s' : Shared) : Prop :=
  ∃ m' cl' cm' news', Fm w (under s news) C cl' s m' cm' news' s' ∧ ∀ s'', Fm w B L cl s₀ m cm news' s'' → Q s''
section
variable {w : World} {B : Heap} {L : Addr} {m : PySem.Str → Option Value} {cl : List (PySem.Str × Addr)} {cm : PySem.Str → Option Value} {news : List (Addr × Obj)} {s₀ s : Shared} {A : Around} {E : Value → Shared → Prop}
theorem Fm.leaveC (F : Fm w B L cl s₀ m cm news s) {C : Addr} {m' cm' : PySem.Str → Option Value} {cl' : List (PySem.Str × Addr)} {news' : List (Addr × Obj)} {s' : Shared} (G : Fm w (under s news) C cl' s m' cm' news' s') :
    ∃ oC, NsO oC m' ∧ Fm w B L cl s₀ m cm ((C, oC) :: news') s' := by
  have H := F.leave G
  (refine x1_2 (ns_of G.ns) ?_; intro oC hC hN)
  refine ⟨oC, hN, ?_⟩
  (refine x1_2 (ns_of F.ns) ?_; intro oL hL _)
  have kL := F.under_L hL
  have big := G.above.2
  exact { H with
    nw := fun p hp => by
      rcases List.mem_cons.mp hp with rfl | hp
      · refine ⟨hC, fun e => ?_, ?_, big⟩
        · have := G.above.1
          have e : C = L := e
          rw [e, kL] at this; cases this
        · cases q : B.get? C with
          | none => rfl
          | some o => have := G.above.1; rw [F.under_keep _ _ q] at this; cases this
      · exact H.nw p hp
    nd := List.nodup_cons.mpr ⟨fun q => by
      (refine x1_2 (List.mem_map.mp q) ?_; intro p hp e)
      exact (G.nw p hp).2.1 e, H.nd⟩
    cd := fun n c e => by
      (refine x0_3 (H.cd n c e) ?_; intro a b c')
      refine ⟨a, fun q => ?_, c'⟩
      rcases List.mem_cons.mp q with q | q
      · (refine x1_2 (F.ce n c e) ?_; intro oc hoc _)
        have h1 := F.under_cell e hoc
        have := G.above.1
        have q : c = C := q
        rw [← q, h1] at this; cases this
      · exact b q }
theorem LcB.out (F : Fm w B L cl s₀ m cm news s) {C : Addr} {Q : Shared → Prop} {s' : Shared} (h : LcB w B L m cl cm news s₀ s C Q s') :
    ∃ m', s'.heap.Ns C m' ∧ ∀ h', Heap.SameBut C s'.heap h' → Q { s' with heap := h' } := by
  (refine x4_2 (h) ?_; try clear h; intro m' cl' cm' news' G k)
  (refine x1_2 (F.leaveC G) ?_; intro oC hN H)
  exact ⟨m', G.ns, fun h' hs => k _ (H.lose (tk := s'.toks) fun b ob hb e => (hs.2 b hb).trans e)⟩
theorem lc_frame {scope : Scope} {env : Env} {cl' : List (PySem.Str × Addr)} {P : Env → Shared → Prop} (F : Fm w B L cl s₀ m cm news s)
    (hcell : ∀ x ∈ scope.names, x.2 ≠ .cell) (hkind : scope.kind = .function) (hcl : ∀ n c, cl'.lookup n = some c → cl.lookup n = some c)
    (h : ∀ C s₁, s₁.heap.objs.size > s.heap.objs.size → Fm w (under s news) C cl' s (fun _ => none) cm news s₁ → P (newEnv scope C env.globals cl' env.qual none .none (some env) builtinsNs) s₁) :
    wpAny (M w) A (newFunctionEnv scope env.globals cl' [] env.qual none .none (some env)) P E s := by
  refine wpAny_newFunctionEnv (builtins := builtinsNs) hcell (by intro y hy; simp at hy) (fun h₁ hns hsb => ?_) hkind
  have hk : ∀ b o, s.heap.get? b = some o → h₁.get? b = some o := fun b o e => hsb.extBut b o (fun q => absurd (Heap.lt_size e) (by rw [q]; exact Nat.lt_irrefl _)) (Heap.get?_push_of_some _ e)
  exact h s.heap.objs.size _ hns.lt (F.enter rfl hns hk (Nat.le_of_lt hns.lt) (fun n c e => (F.ce n c (hcl n c e)).keeps hk) (fun n c e => by
    (refine x0_3 (F.cd n c (hcl n c e)) ?_; intro a b c')
    (refine x1_2 (F.ce n c (hcl n c e)) ?_; intro oc hoc _)
    exact ⟨Nat.ne_of_lt (Heap.lt_size hoc), b, c'⟩) fun n n' c e e' => F.cp n n' c (hcl _ _ e) (hcl _ _ e'))
variable {elt target iter : Expr} {ifs : List Expr} {rest : List Comprehension} {scope : Scope} {pos : Pos} {env : Env} {cl' : List (PySem.Str × Addr)} {Q : Value → Shared → Prop}
theorem list_comp (hclos : closureFor scope env = pure cl') (hcell : (scope.names.all fun x => decide (x.2 ≠ .cell)) = true) (hkind : scope.kind = .function)
    (hnames : (scope.names.all fun x => decide (x.2 = .local → scope.names.lookup x.1 = some .local)) = true) (hs : ∀ x, foldedSetIterable iter env x = pure x)
    (hcl : ∀ n c, cl'.lookup n = some c → cl.lookup n = some c)
    (h : wpAny (M w) A (eval iter env) (fun x s₁ => wpAny (M w) A (pyIter x) (fun it s₂ => ∃ news, Fm w B L cl s₀ m cm news s₂ ∧
      ∀ D C s₃ s₄, s₃.heap.objs.size > D → Fm w B L cl s₀ m cm ((D, lsO [] 0) :: news) s₃ → Fm w (under s₃ ((D, lsO [] 0) :: news)) C cl' s₃ (fun _ => none) cm ((D, lsO [] 0) :: news) s₄ →
        CompS w A (.ListComp elt (⟨target, iter, ifs, 0⟩ :: rest) scope pos) 0 it (.ref D) (compEnvC scope cl' C env) (LcB w B L m cl cm ((D, lsO [] 0) :: news) s₀ s₃ C (Q (.ref D))) s₄) NoE s₁) NoE s) :
    wpAny (M w) A (eval (.ListComp elt (⟨target, iter, ifs, 0⟩ :: rest) scope pos) env) Q NoE s := by
  rw [eval_ListComp]
  refine wpAny_comprehension_free (use := none) rfl hs hclos hkind (fun x hx => of_decide_eq_true (List.all_eq_true.mp hnames x hx)) (wpAny_mono h (fun xv s₁ h₁ => wpAny_mono h₁ (fun it s₂ h₂ => ?_) fun _ _ e => e) fun _ _ e => e)
  (refine x1_2 (h₂) ?_; try clear h₂; intro news F k)
  have F' := F.push (lsO [] 0) (tk := s₂.toks)
  refine wpAny_newObj_type ?_
  refine lc_frame (env := env) F' (fun x hx => of_decide_eq_true (List.all_eq_true.mp hcell x hx)) hkind hcl fun C s₄ hz G => ?_
  refine codeAny_mono (k _ C _ s₄ (by show _ > _; rw [Heap.size_push]; exact Nat.lt_succ_self _) F' G) fun r s' hr => ?_
  cases r with
  | error x => exact hr.elim
  | ok f => exact hr.out F'
end
section
variable {w : World} {B : Heap} {L : Addr} {m : PySem.Str → Option Value} {cl : List (PySem.Str × Addr)} {cm : PySem.Str → Option Value} {news : List (Addr × Obj)} {s₀ s : Shared} {A : Around} {E : Value → Shared → Prop}
variable {elt target iter : Expr} {ifs : List Expr} {rest : List Comprehension} {scope : Scope} {pos py spos : Pos} {env : Env} {cl' : List (PySem.Str × Addr)} {y : PySem.Str} {Q : Flow → Shared → Prop}
theorem list_comp_to (hsw : swapsWith (.ListComp elt (⟨target, iter, ifs, 0⟩ :: rest) scope pos) (some (.Name y py)) spos.line env = pure true)
    (hclos : closureFor scope env = pure cl') (hcell : (scope.names.all fun x => decide (x.2 ≠ .cell)) = true) (hkind : scope.kind = .function)
    (hnames : (scope.names.all fun x => decide (x.2 = .local → scope.names.lookup x.1 = some .local)) = true) (hs : ∀ x, foldedSetIterable iter env x = pure x)
    (hcl : ∀ n c, cl'.lookup n = some c → cl.lookup n = some c) (hk : env.scope.kind = .function) (hy : env.kindOf y = some .local) (hL : env.locals = L)
    (h : wpAny (M w) A (eval iter env) (fun x s₁ => wpAny (M w) A (pyIter x) (fun it s₂ => ∃ news, Fm w B L cl s₀ m cm news s₂ ∧
      ∀ D C s₃ s₄, s₃.heap.objs.size > D → Fm w B L cl s₀ m cm ((D, lsO [] 0) :: news) s₃ → Fm w (under s₃ ((D, lsO [] 0) :: news)) C cl' s₃ (fun _ => none) cm ((D, lsO [] 0) :: news) s₄ →
        CompS w A (.ListComp elt (⟨target, iter, ifs, 0⟩ :: rest) scope pos) 0 it (.ref D) (compEnvC scope cl' C env) (fun s₅ => ∃ m' cl' cm' news', Fm w (under s₃ ((D, lsO [] 0) :: news)) C cl' s₃ m' cm' news' s₅ ∧ ∀ s'', Fm w B L cl s₀ (upd m y (.ref D)) cm news' s'' → Q .next s'') s₄) NoE s₁) NoE s) :
    wpAny (M w) A (exec (.Assign [.Name y py] (.ListComp elt (⟨target, iter, ifs, 0⟩ :: rest) scope pos) spos) env) Q NoE s := by
  rw [exec_Assign_Name_used _ _ _ _ hsw]
  refine wpAny_bind (wpAny_standAt (wpAny_bind ?_))
  show wpAny _ A (do let _ ← comprehension (.ListComp elt (⟨target, iter, ifs, 0⟩ :: rest) scope pos) scope env _ (newList []) false (eval iter env) (some (assign (.Name y py) env))) _ _ s
  refine wpAny_bind (wpAny_mono (wpAny_comprehension_free (use := some (assign (.Name y py) env)) (Q := fun _ s' => Q .next s') rfl hs hclos hkind (fun x hx => of_decide_eq_true (List.all_eq_true.mp hnames x hx))
    (wpAny_mono h (fun xv s₁ h₁ => wpAny_mono h₁ (fun it s₂ h₂ => ?_) fun _ _ e => e) fun _ _ e => e)) (fun _ s' hq => wpAny_pure (wpAny_pure hq)) fun _ _ e => e)
  (refine x1_2 (h₂) ?_; try clear h₂; intro news F k)
  have F' := F.push (lsO [] 0) (tk := s₂.toks)
  refine wpAny_newObj_type ?_
  refine lc_frame (env := env) F' (fun x hx => of_decide_eq_true (List.all_eq_true.mp hcell x hx)) hkind hcl fun C s₄ hz G => ?_
  refine codeAny_mono (k _ C _ s₄ (by show _ > _; rw [Heap.size_push]; exact Nat.lt_succ_self _) F' G) fun r s' hr => ?_
  cases r with
  | error x => exact hr.elim
  | ok f =>
    (refine x4_2 (hr) ?_; try clear hr; intro m' cl₁ cm' news' G' kk)
    (refine x1_2 (F'.leaveC G') ?_; intro oC hN H)
    show wpAny _ A (assign (.Name y py) env (.ref s₂.heap.objs.size)) _ _ _
    obtain ⟨h', g', d', tk', os'⟩ := s'
    refine wpAny_assign_Name (st_L H hk hy hL fun h₂ H₂ => ?_)
    refine ⟨m', hN.at (H₂.at 0 rfl), fun h'' hs'' => kk _ (H₂.lose (tk := tk' + 1) fun b ob hb e => (hs''.2 b hb).trans e)⟩
end
/-- the frame's own cells may be stored -/
noncomputable def OwnC (B : Heap) (cl : List (PySem.Str × Addr)) : Prop := ∀ n c, cl.lookup n = some c → B.get? c = none ∧ szTop ≤ c
section
variable {w : World} {B : Heap} {L : Addr} {m : PySem.Str → Option Value} {cl : List (PySem.Str × Addr)} {cm : PySem.Str → Option Value} {news : List (Addr × Obj)} {s₀ s : Shared} {A : Around} {E : Value → Shared → Prop} {Q : Value → Shared → Prop}
theorem call_fn_cells {n : Nat} {f : Addr} {oc : Value} {od : Option Addr} {osl : Array (Option Value)} {fd : FuncData} {body : List Stmt} {vals : List Value} {binds : List (PySem.Str × Value)}
    (R : Room (n + 1) A) (F : Fm w B L cl s₀ m cm news s)
    (ho : (KF w.params).lookup f = some ⟨oc, od, .func fd, osl⟩) (hcd : codeIn (KF w.params) fd.code fd.qualname = true) (hbody : fd.body = .stmts body) (hbind : bindArgs fd ⟨vals, []⟩ = pure binds) (hclo : fd.closure = [])
    (hkind : ∀ z, binds.all (fun x => decide (fd.scope.names.lookup x.1 = some .local) || (decide (fd.scope.names.lookup x.1 = some .cell) && ((cellsFrom z fd.scope.names []).lookup x.1).isSome)) = true)
    (h : ∀ Qo : Flow → Shared → Prop, (∀ fl s', Back w B L m cl cm news s₀ s Q (retV fl) s' → Qo fl s') → ∀ L' s₁, L' = s.heap.objs.size → Fm w (under s news) L' (callEnvC fd L' f).cells s (bindL (callEnvC fd L' f).kindOf binds fun _ => none) (bindC (callEnvC fd L' f).kindOf binds fun _ => none) news s₁ → OwnC (under s news) (callEnvC fd L' f).cells → Room n (A.deeper (callEnvC fd L' f)) →
      wpAny (M w) (A.deeper (callEnvC fd L' f)) (execs body (callEnvC fd L' f)) Qo (fun _ _ => False) s₁)
    (hco : fd.scope.isCoroutine = false) (hgen : fd.scope.isGenerator = false) (hk : fd.scope.kind = .function) : wpAny (M w) A (call (.ref f) vals []) Q E s := by
  have X := F.K
  refine wpAny_call (codeAny_call_cells (fd := fd) (body := body) (binds := binds) R.lt (X _ _ ho) rfl (F.wf.nl.keeps F.keep) (codeRec_of X hcd) hbody hbind hclo (fun x hx => ?_) (fun s₁ I => ?_) hco hgen hk)
  · have := List.all_eq_true.mp (hkind (s.heap.objs.size + 1)) x hx
    rw [Bool.or_eq_true, Bool.and_eq_true, decide_eq_true_eq, decide_eq_true_eq] at this
    exact this
  have IC := I.toInCall
  (refine x2_1 (IC.same) ?_; intro h₁ tk eqX2; subst eqX2)
  have hz : s.heap.objs.size < h₁.objs.size := IC.ns.lt
  have hnone : ∀ c, s.heap.objs.size < c → (under s news).get? c = none := fun c hc => by
    cases q : (under s news).get? c with
    | none => rfl
    | some o => exact absurd (Heap.lt_size q) (by show ¬ c < (hideAll s.heap _).objs.size; rw [hideAll_size]; (first | lia | omega))
  have hab : ∀ n c, (callEnvC fd s.heap.objs.size f).cells.lookup n = some c → s.heap.objs.size < c := fun n c e => I.above n c (mem_of_lookup e)
  have hT : szTop ≤ s.heap.objs.size := Nat.le_trans F.szL (Nat.le_of_lt F.ns.lt)
  refine wpAny_mono (h _ (fun _ _ x => x) s.heap.objs.size _ rfl (F.enter (tk := tk) rfl IC.ns IC.keep (Nat.le_of_lt hz) I.cell (fun n c e => ?_) fun n n' c e e' => name_of_addr I.apart (mem_of_lookup e) (mem_of_lookup e')) (fun n c e => ⟨hnone c (hab n c e), Nat.le_trans hT (Nat.le_of_lt (hab n c e))⟩) R.deeper) (fun fl s' hb => ?_) (fun _ _ x => x.elim)
  · have hc := hab n c e
    refine ⟨Nat.ne_of_gt hc, fun q => ?_, fun t => absurd (tab_lt t) (Nat.not_lt.mpr (Nat.le_trans hT (Nat.le_of_lt hc)))⟩
    (refine x1_2 (List.mem_map.mp q) ?_; intro p hp e')
    have := Heap.lt_size (F.nw p hp).1
    rw [e'] at this
    exact Nat.lt_asymm this hc
  · cases fl <;> exact hb.go F
end
local macro_rules | `(tactic| ktn_no "x2") => `(tactic| first
  | ktn_no "y1"
  | (with_reducible refine st_C (by assumption) ?a1 ?a2 ?a3 ?a4 ?a5 ?a6 (fun _ _ => ?_); (case a1 => kernel_rfl); (case a2 => kernel_rfl!); (case a3 => kernel_rfl); (case a4 => kernel_rfl); (case a5 => exact (by assumption : OwnC _ _) _ _ (by kernel_rfl) |>.1); (case a6 => exact (by assumption : OwnC _ _) _ _ (by kernel_rfl) |>.2)))
local macro_rules | `(tactic| ktn_no "z") => `(tactic| repeat ktn_no "x2")
noncomputable def captStep (cells : List (PySem.Str × Addr)) (cs : List (PySem.Str × Addr)) (x : PySem.Str × NameKind) : List (PySem.Str × Addr) := if x.2 == .free then (x.1, (cells.lookup x.1).getD 0) :: cs else cs
/-- the cells that a comprehension takes over -/
noncomputable def capt (scope : Scope) (cells : List (PySem.Str × Addr)) : List (PySem.Str × Addr) := scope.names.foldl (captStep cells) []
noncomputable def captOk (scope : Scope) (cells : List (PySem.Str × Addr)) : Bool := scope.names.all fun x => !(x.2 == .free) || (cells.lookup x.1).isSome
theorem capt_run (env : Env) (f : PySem.Str × NameKind → List (PySem.Str × Addr) → Sem (ForInStep (List (PySem.Str × Addr))))
    (hf : ∀ n k cs, f (n, k) cs = if k == .free then (do let c ← cellOf env n; pure (.yield ((n, c) :: cs))) else pure (.yield cs)) :
    ∀ (names : List (PySem.Str × NameKind)) (acc : List (PySem.Str × Addr)), (names.all fun x => !(x.2 == .free) || (env.cells.lookup x.1).isSome) = true → forIn names acc f = pure (names.foldl (captStep env.cells) acc)
  | [], acc, _ => rfl
  | (n, k) :: names, acc, h => by
    rw [List.all_cons, Bool.and_eq_true] at h
    rw [List.forIn_cons, hf, List.foldl_cons]
    by_cases hk : (k == .free) = true
    · rw [if_pos hk]
      have h1 := h.1
      simp only [hk, Bool.not_true, Bool.false_or] at h1
      obtain ⟨c, hc⟩ := Option.isSome_iff_exists.mp h1
      have e : cellOf env n = pure c := by unfold cellOf; rw [hc]
      rw [e]
      show forIn names ((n, c) :: acc) f = _
      rw [capt_run env f hf names _ h.2]
      unfold captStep
      rw [if_pos hk, hc]; rfl
    · rw [if_neg hk]
      show forIn names acc f = _
      rw [capt_run env f hf names _ h.2]
      unfold captStep
      rw [if_neg hk]
theorem capt_clos {scope : Scope} {env : Env} (h : captOk scope env.cells = true) : closureFor scope env = pure (capt scope env.cells) := by
  unfold closureFor capt
  show (forIn scope.names [] _ >>= _) = _
  rw [capt_run env _ (fun n k cs => ?_) scope.names [] h]
  · rfl
  · by_cases hk : (k == .free) = true
    · simp only [hk]
    · simp only [hk]
theorem capt_mem (cells : List (PySem.Str × Addr)) : ∀ (names : List (PySem.Str × NameKind)) (acc : List (PySem.Str × Addr)), (names.all fun x => !(x.2 == .free) || (cells.lookup x.1).isSome) = true → (∀ n c, acc.lookup n = some c → cells.lookup n = some c) →
    ∀ n c, (names.foldl (captStep cells) acc).lookup n = some c → cells.lookup n = some c
  | [], acc, _, h => h
  | (x, k) :: names, acc, hn, h => by
    rw [List.all_cons, Bool.and_eq_true] at hn
    rw [List.foldl_cons]
    refine capt_mem cells names _ hn.2 fun n c e => ?_
    unfold captStep at e
    split at e
    · rename_i hk
      have h1 := hn.1
      simp only [hk, Bool.not_true, Bool.false_or] at h1
      obtain ⟨c', hc⟩ := Option.isSome_iff_exists.mp h1
      rw [List.lookup_cons] at e
      dsimp only at e
      rw [hc] at e
      cases hb : n == x with
      | true => rw [hb] at e; dsimp only at e; cases e; rw [beq_iff_eq.mp hb]; exact hc
      | false => rw [hb] at e; exact h n c e
    · exact h n c e
theorem capt_sub {scope : Scope} {cells : List (PySem.Str × Addr)} (h : captOk scope cells = true) : ∀ n c, (capt scope cells).lookup n = some c → cells.lookup n = some c :=
  capt_mem cells scope.names [] h fun n c e => by simp at e
section
variable {w : World} {B : Heap} {L : Addr} {m : PySem.Str → Option Value} {cl : List (PySem.Str × Addr)} {cm : PySem.Str → Option Value} {news : List (Addr × Obj)} {s₀ s : Shared} {A : Around}
variable {elt target iter : Expr} {ifs : List Expr} {rest : List Comprehension} {scope : Scope} {pos py spos : Pos} {env : Env}
/-- a list comprehension in a frame with cells -/
theorem list_compC {Q : Value → Shared → Prop} (hk : captOk scope env.cells = true) (hL : env.cells = cl) (hcell : (scope.names.all fun x => decide (x.2 ≠ .cell)) = true) (hkind : scope.kind = .function)
    (hnames : (scope.names.all fun x => decide (x.2 = .local → scope.names.lookup x.1 = some .local)) = true) (hs : ∀ x, foldedSetIterable iter env x = pure x)
    (h : wpAny (M w) A (eval iter env) (fun x s₁ => wpAny (M w) A (pyIter x) (fun it s₂ => ∃ news, Fm w B L cl s₀ m cm news s₂ ∧
      ∀ D C s₃ s₄, s₃.heap.objs.size > D → Fm w B L cl s₀ m cm ((D, lsO [] 0) :: news) s₃ → Fm w (under s₃ ((D, lsO [] 0) :: news)) C (capt scope env.cells) s₃ (fun _ => none) cm ((D, lsO [] 0) :: news) s₄ →
        CompS w A (.ListComp elt (⟨target, iter, ifs, 0⟩ :: rest) scope pos) 0 it (.ref D) (compEnvC scope (capt scope env.cells) C env) (LcB w B L m cl cm ((D, lsO [] 0) :: news) s₀ s₃ C (Q (.ref D))) s₄) NoE s₁) NoE s) :
    wpAny (M w) A (eval (.ListComp elt (⟨target, iter, ifs, 0⟩ :: rest) scope pos) env) Q NoE s :=
  list_comp (capt_clos hk) hcell hkind hnames hs (by subst hL; exact capt_sub hk) h
theorem list_comp_toC {y : PySem.Str} {Q : Flow → Shared → Prop} (hsw : swapsWith (.ListComp elt (⟨target, iter, ifs, 0⟩ :: rest) scope pos) (some (.Name y py)) spos.line env = pure true)
    (hkc : captOk scope env.cells = true) (hLc : env.cells = cl) (hcell : (scope.names.all fun x => decide (x.2 ≠ .cell)) = true) (hkind : scope.kind = .function)
    (hnames : (scope.names.all fun x => decide (x.2 = .local → scope.names.lookup x.1 = some .local)) = true) (hs : ∀ x, foldedSetIterable iter env x = pure x)
    (hk : env.scope.kind = .function) (hy : env.kindOf y = some .local) (hL : env.locals = L)
    (h : wpAny (M w) A (eval iter env) (fun x s₁ => wpAny (M w) A (pyIter x) (fun it s₂ => ∃ news, Fm w B L cl s₀ m cm news s₂ ∧
      ∀ D C s₃ s₄, s₃.heap.objs.size > D → Fm w B L cl s₀ m cm ((D, lsO [] 0) :: news) s₃ → Fm w (under s₃ ((D, lsO [] 0) :: news)) C (capt scope env.cells) s₃ (fun _ => none) cm ((D, lsO [] 0) :: news) s₄ →
        CompS w A (.ListComp elt (⟨target, iter, ifs, 0⟩ :: rest) scope pos) 0 it (.ref D) (compEnvC scope (capt scope env.cells) C env) (fun s₅ => ∃ m' cl' cm' news', Fm w (under s₃ ((D, lsO [] 0) :: news)) C cl' s₃ m' cm' news' s₅ ∧ ∀ s'', Fm w B L cl s₀ (upd m y (.ref D)) cm news' s'' → Q .next s'') s₄) NoE s₁) NoE s) :
    wpAny (M w) A (exec (.Assign [.Name y py] (.ListComp elt (⟨target, iter, ifs, 0⟩ :: rest) scope pos) spos) env) Q NoE s :=
  list_comp_to hsw (capt_clos hkc) hcell hkind hnames hs (by subst hLc; exact capt_sub hkc) hk hy hL h
end
/-- an iterator object gives itself -/
noncomputable def SelfI (w : World) (I : Addr) (Ob : Nat → Obj → Prop) : Prop := ∀ (A : Around) (o : Obj) (s : Shared) (Q : Value → Shared → Prop), Ob 0 o → s.heap.get? I = some o → Q (.ref I) s → wpAny (M w) A (pyIter (.ref I)) Q NoE s
theorem self_range {w : World} (I : Addr) (a c : Int) (n : Nat) : SelfI w I (fun i o => o = ⟨.type "range_iterator", none, .fields #[rawInt (a + (i : Nat) * c), rawInt ((n : Int) - (i : Nat)), rawInt c], #[]⟩) :=
  fun _ o _ _ ho hI q => by subst ho; exact wpAny_pyIter_rangeiter hI q
theorem self_str {w : World} (I : Addr) (x : PySem.Str) (t : Tok) : SelfI w I (fun i o => o.cls = .type "str_ascii_iterator" ∧ o.data = .fields #[.str x t, .int i 0]) :=
  fun _ o _ _ ho hI q => wpAny_pyIter_striter_ascii ⟨o, hI, ho⟩ q
theorem self_seq {w : World} (I x : Addr) : SelfI w I (fun i o => o = itO x i) :=
  fun _ o _ _ ho hI q => by subst ho; exact wpAny_pyIter_listiter (it := I) (l := x) (i := 0) ⟨_, hI, rfl, rfl⟩ q
section
variable {w : World} {B : Heap} {C I : Addr} {cl : List (PySem.Str × Addr)} {s₀ : Shared} {A : Around} {n : Nat} {P : Nat → Value → Prop} {Ob : Nat → Obj → Prop} {Sd : Heap → Prop}
  {elt target iter : Expr} {ifs : List Expr} {gens : List Comprehension} {scope : Scope} {pos : Pos} {acc : Value} {d : Nat} {env : Env} {Q : Shared → Prop}
theorem comp_run (S : Steps w I n P Ob Sd) (hg : gens[d]? = some ⟨target, iter, ifs, 0⟩) (hn : gens[d + 1]? = none) (hh : A.handled = none)
    (Inv : Nat → (PySem.Str → Option Value) → (PySem.Str → Option Value) → List (Addr × Obj) → Prop)
    (hSd : ∀ i m cm news s o, Inv i m cm news → Fm w B C cl s₀ m cm ((I, o) :: news) s → Sd s.heap)
    (body : ∀ i v m cm news o s (K : Shared → Prop), i < n → P i v → Inv i m cm news → Fm w B C cl s₀ m cm ((I, o) :: news) s →
      (∀ m' cm' news' s', Inv (i + 1) m' cm' news' → Fm w B C cl s₀ m' cm' ((I, o) :: news') s' → K s') →
      wpAny (M w) A (letOwnedTupleGo target (.ref I) v) (fun _ s₁' => wpAny (M w) A (assign target env v) (fun _ s₂ => wpAny (M w) A (ifsOk env ifs) (fun ok s₃ =>
          if ok = true then wpAny (M w) A (eval elt env) (fun y s₄ => wpAny (M w) A (call (.builtin "list.append") [acc, y]) (fun _ s₅ => K s₅) NoE s₄) NoE s₃
          else K s₃) NoE s₂) NoE s₁') NoE s) :
    ∀ (k i : Nat) (m cm : PySem.Str → Option Value) (news : List (Addr × Obj)) (o : Obj) (s : Shared), i + k = n → Ob i o → Inv i m cm news → Fm w B C cl s₀ m cm ((I, o) :: news) s →
      (∀ m' cm' news' s', Inv n m' cm' news' → Fm w B C cl s₀ m' cm' news' s' → Q s') → CompC w A (.ListComp elt gens scope pos) d (.ref I) acc env Q s
  | 0, i, m, cm, news, o, s, hi, ho, hv, F, hq => by
    refine comp_step hg hn ?_
    have hs := hSd _ _ _ _ _ _ hv F
    obtain ⟨h, g, dd, tk, os⟩ := s
    refine F.endI S hh (by ktn_no "om") ho hs fun h' tk' F' => ?_
    exact hq _ _ _ _ (by rw [← hi]; exact hv) F'
  | k + 1, i, m, cm, news, o, s, hi, ho, hv, F, hq => by
    refine comp_step hg hn ?_
    have hs := hSd _ _ _ _ _ _ hv F
    obtain ⟨h, g, dd, tk, os⟩ := s
    refine F.nextI S (by ktn_no "om") ho hs fun v h' tk' o' hP ho' F' => ?_
    refine body i v m cm news o' _ _ (by ktn_no "om") hP hv F' fun m' cm' news' s' hv' F'' => ?_
    exact comp_run S hg hn hh Inv hSd body k (i + 1) m' cm' news' o' s' (by ktn_no "om") ho' hv' F'' hq
theorem comp_run2 {target' iter' : Expr} {ifs' : List Expr} (S : Steps w I n P Ob Sd) (hg : gens[d]? = some ⟨target, iter, ifs, 0⟩) (hn : gens[d + 1]? = some ⟨target', iter', ifs', 0⟩) (hf : ∀ x, foldedSetIterable iter' env x = pure x) (hh : A.handled = none)
    (Inv : Nat → (PySem.Str → Option Value) → (PySem.Str → Option Value) → List (Addr × Obj) → Prop)
    (hSd : ∀ i m cm news s o, Inv i m cm news → Fm w B C cl s₀ m cm ((I, o) :: news) s → Sd s.heap)
    (body : ∀ i v m cm news o s (K : Shared → Prop), i < n → P i v → Inv i m cm news → Fm w B C cl s₀ m cm ((I, o) :: news) s →
      (∀ m' cm' news' s', Inv (i + 1) m' cm' news' → Fm w B C cl s₀ m' cm' ((I, o) :: news') s' → K s') →
      wpAny (M w) A (letOwnedTupleGo target (.ref I) v) (fun _ s₁' => wpAny (M w) A (assign target env v) (fun _ s₂ => wpAny (M w) A (ifsOk env ifs) (fun ok s₃ =>
          if ok = true then wpAny (M w) A (eval iter' env) (fun x s₄ => wpAny (M w) A (pyIter x) (fun it' s₅ => CompS w A (.ListComp elt gens scope pos) (d + 1) it' acc env K s₅) NoE s₄) NoE s₃
          else K s₃) NoE s₂) NoE s₁') NoE s) :
    ∀ (k i : Nat) (m cm : PySem.Str → Option Value) (news : List (Addr × Obj)) (o : Obj) (s : Shared), i + k = n → Ob i o → Inv i m cm news → Fm w B C cl s₀ m cm ((I, o) :: news) s →
      (∀ m' cm' news' s', Inv n m' cm' news' → Fm w B C cl s₀ m' cm' news' s' → Q s') → CompC w A (.ListComp elt gens scope pos) d (.ref I) acc env Q s
  | 0, i, m, cm, news, o, s, hi, ho, hv, F, hq => by
    refine comp_outer hg hn hf ?_
    have hs := hSd _ _ _ _ _ _ hv F
    obtain ⟨h, g, dd, tk, os⟩ := s
    refine F.endI S hh (by ktn_no "om") ho hs fun h' tk' F' => ?_
    exact hq _ _ _ _ (by rw [← hi]; exact hv) F'
  | k + 1, i, m, cm, news, o, s, hi, ho, hv, F, hq => by
    refine comp_outer hg hn hf ?_
    have hs := hSd _ _ _ _ _ _ hv F
    obtain ⟨h, g, dd, tk, os⟩ := s
    refine F.nextI S (by ktn_no "om") ho hs fun v h' tk' o' hP ho' F' => ?_
    refine body i v m cm news o' _ _ (by ktn_no "om") hP hv F' fun m' cm' news' s' hv' F'' => ?_
    exact comp_run2 S hg hn hf hh Inv hSd body k (i + 1) m' cm' news' o' s' (by ktn_no "om") ho' hv' F'' hq
/-- from the start on -/
theorem comp_all (S : Steps w I n P Ob Sd) (self : SelfI w I Ob) (hg : gens[d]? = some ⟨target, iter, ifs, 0⟩) (hn : gens[d + 1]? = none) (hh : A.handled = none)
    (Inv : Nat → (PySem.Str → Option Value) → (PySem.Str → Option Value) → List (Addr × Obj) → Prop)
    (hSd : ∀ i m cm news s o, Inv i m cm news → Fm w B C cl s₀ m cm ((I, o) :: news) s → Sd s.heap)
    {m cm : PySem.Str → Option Value} {news : List (Addr × Obj)} {o : Obj} {s : Shared} (ho : Ob 0 o) (hv : Inv 0 m cm news) (F : Fm w B C cl s₀ m cm ((I, o) :: news) s)
    (body : ∀ i v m cm news o s (K : Shared → Prop), i < n → P i v → Inv i m cm news → Fm w B C cl s₀ m cm ((I, o) :: news) s →
      (∀ m' cm' news' s', Inv (i + 1) m' cm' news' → Fm w B C cl s₀ m' cm' ((I, o) :: news') s' → K s') →
      wpAny (M w) A (letOwnedTupleGo target (.ref I) v) (fun _ s₁' => wpAny (M w) A (assign target env v) (fun _ s₂ => wpAny (M w) A (ifsOk env ifs) (fun ok s₃ =>
          if ok = true then wpAny (M w) A (eval elt env) (fun y s₄ => wpAny (M w) A (call (.builtin "list.append") [acc, y]) (fun _ s₅ => K s₅) NoE s₄) NoE s₃
          else K s₃) NoE s₂) NoE s₁') NoE s)
    (hq : ∀ m' cm' news' s', Inv n m' cm' news' → Fm w B C cl s₀ m' cm' news' s' → Q s') : CompS w A (.ListComp elt gens scope pos) d (.ref I) acc env Q s := by
  have run := comp_run (acc := acc) (scope := scope) (pos := pos) S hg hn hh Inv hSd body n 0 m cm news o s (by ktn_no "om") ho hv F hq
  exact comp_start hg run (self A o s _ ho (F.at 0 rfl) run)
theorem comp_all2 {target' iter' : Expr} {ifs' : List Expr} (S : Steps w I n P Ob Sd) (self : SelfI w I Ob) (hg : gens[d]? = some ⟨target, iter, ifs, 0⟩) (hn : gens[d + 1]? = some ⟨target', iter', ifs', 0⟩) (hf : ∀ x, foldedSetIterable iter' env x = pure x) (hh : A.handled = none)
    (Inv : Nat → (PySem.Str → Option Value) → (PySem.Str → Option Value) → List (Addr × Obj) → Prop)
    (hSd : ∀ i m cm news s o, Inv i m cm news → Fm w B C cl s₀ m cm ((I, o) :: news) s → Sd s.heap)
    {m cm : PySem.Str → Option Value} {news : List (Addr × Obj)} {o : Obj} {s : Shared} (ho : Ob 0 o) (hv : Inv 0 m cm news) (F : Fm w B C cl s₀ m cm ((I, o) :: news) s)
    (body : ∀ i v m cm news o s (K : Shared → Prop), i < n → P i v → Inv i m cm news → Fm w B C cl s₀ m cm ((I, o) :: news) s →
      (∀ m' cm' news' s', Inv (i + 1) m' cm' news' → Fm w B C cl s₀ m' cm' ((I, o) :: news') s' → K s') →
      wpAny (M w) A (letOwnedTupleGo target (.ref I) v) (fun _ s₁' => wpAny (M w) A (assign target env v) (fun _ s₂ => wpAny (M w) A (ifsOk env ifs) (fun ok s₃ =>
          if ok = true then wpAny (M w) A (eval iter' env) (fun x s₄ => wpAny (M w) A (pyIter x) (fun it' s₅ => CompS w A (.ListComp elt gens scope pos) (d + 1) it' acc env K s₅) NoE s₄) NoE s₃
          else K s₃) NoE s₂) NoE s₁') NoE s)
    (hq : ∀ m' cm' news' s', Inv n m' cm' news' → Fm w B C cl s₀ m' cm' news' s' → Q s') : CompS w A (.ListComp elt gens scope pos) d (.ref I) acc env Q s := by
  have run := comp_run2 (acc := acc) (scope := scope) (pos := pos) S hg hn hf hh Inv hSd body n 0 m cm news o s (by ktn_no "om") ho hv F hq
  exact comp_start hg run (self A o s _ ho (F.at 0 rfl) run)
end
section
variable {w : World} {B : Heap} {L : Addr} {m : PySem.Str → Option Value} {cl : List (PySem.Str × Addr)} {cm : PySem.Str → Option Value} {news : List (Addr × Obj)} {s₀ : Shared} {A : Around} {E : Value → Shared → Prop}
  {h : Heap} {g : Array GenState} {d d₀ : Drawn} {tk tk₀ : Nat} {os : OsState} {D : Addr} {v : Value} {vs : List Value} {k i : Nat} {Q : Value → Shared → Prop}
/-- a value appended to a tracked list -/
theorem app_at (i : Nat) (F : Fm w B L cl s₀ m cm news ⟨h, g, d₀, tk₀, os⟩) (hi : news[i]? = some (D, lsO vs k)) (hsz : vs.length ≤ 100000)
    (q : ∀ h', Fm w B L cl s₀ m cm (news.set i (D, lsO (vs ++ [v]) (k + 1))) ⟨h', g, d, tk, os⟩ → Q .none ⟨h', g, d, tk, os⟩) : wpAny (M w) A (call (.builtin "list.append") [.ref D, v]) Q E ⟨h, g, d, tk, os⟩ := by
  refine append_at (F.at i hi) (fun h₂ hs₂ hx₂ => ?_) (Nat.le_trans (by simpa using hsz) (show (100000 : Nat) ≤ sizeLine by decide))
  exact q h₂ (F.set1 (i := i) (o' := lsO (vs ++ [v]) (k + 1)) hi hs₂ (by simpa using hx₂))
end
/-- the ints of a list of values -/
noncomputable abbrev inV (l : List (Int × Tok)) : List Value := l.map fun p => .int p.1 p.2
noncomputable abbrev ObR (a : Int) (n : Nat) : Nat → Obj → Prop := fun i o => o = ⟨.type "range_iterator", none, .fields #[rawInt (a + (i : Nat) * 1), rawInt ((n : Int) - (i : Nat)), rawInt 1], #[]⟩
theorem up_size (a : Int) (n : Nat) : Builtin.Range.rangeSize a (a + n) 1 = n := by
  unfold Builtin.Range.rangeSize
  rw [if_pos (by decide)]
  by_cases h : a + (n : Int) > a
  · rw [if_pos h]; rw [show (1 : Int) = 1 from rfl, Int.ediv_one]; (first | lia | omega)
  · rw [if_neg h]; (first | lia | omega)
theorem up_small (a n : Nat) (hk : a + n ≤ 100000) : Builtin.Range.small (a : Int) ((a : Int) + n) 1 = true := by
  unfold Builtin.Range.small
  simp only [up_size]
  unfold Builtin.Range.rangeFitsLong
  simp
  (first | lia | omega)
section
variable {w : World} {B : Heap} {L : Addr} {m : PySem.Str → Option Value} {cl : List (PySem.Str × Addr)} {cm : PySem.Str → Option Value} {news : List (Addr × Obj)} {s₀ : Shared} {A : Around}
  {h : Heap} {g : Array GenState} {d d₀ : Drawn} {tk tk₀ : Nat} {os : OsState} {E : Value → Shared → Prop}
/-- an iterator over range(a, a + n) -/
theorem iter_range {r : Addr} {a n : Nat} {t u v : Tok} {Q : Value → Shared → Prop} (F : Fm w B L cl s₀ m cm ((r, ⟨.type "range", none, .fields #[.int (a : Int) t, .int ((a : Int) + n) u, .int 1 v], #[]⟩) :: news) ⟨h, g, d₀, tk₀, os⟩) (hn : a + n ≤ 100000)
    (q : ∀ I o h', ObR a n 0 o → Fm w B L cl s₀ m cm ((I, o) :: news) ⟨h', g, d, tk, os⟩ → Q (.ref I) ⟨h', g, d, tk, os⟩) : wpAny (M w) A (pyIter (.ref r)) Q E ⟨h, g, d, tk, os⟩ := by
  refine wpAny_pyIter_range (F.at 0 rfl) (up_small a n hn) ?_
  rw [up_size]
  have F₂ := F.push1 (d := d) (tk := tk) ⟨.type "range_iterator", none, .fields #[rawInt (a : Int), rawInt (n : Int), rawInt 1], #[]⟩
  refine q _ _ _ (by show _ = _; simp) (F₂.erase 1)
theorem range1 {n : Nat} {t : Tok} {Q : Value → Shared → Prop} (F : Fm w B L cl s₀ m cm news ⟨h, g, d₀, tk₀, os⟩)
    (q : ∀ r h' t' u' v' tk', Fm w B L cl s₀ m cm ((r, ⟨.type "range", none, .fields #[.int ((0 : Nat) : Int) t', .int (((0 : Nat) : Int) + n) u', .int 1 v'], #[]⟩) :: news) ⟨h', g, d, tk', os⟩ → Q (.ref r) ⟨h', g, d, tk', os⟩) :
    wpAny (M w) A (call (.type "range") [.int n t]) Q E ⟨h, g, d, tk, os⟩ := by
  refine call_range_1 ?_
  have F₂ := F.push1 (d := d) (tk := tk + 1 + 1) ⟨.type "range", none, .fields #[.int ((0 : Nat) : Int) tk, .int (n : Int) t, .int 1 (tk + 1)], #[]⟩
  refine q _ _ tk t (tk + 1) _ ?_
  rw [show (((0 : Nat) : Int) + n) = n from by simp]
  exact F₂
theorem range2 {a n : Nat} {e : Int} {t u : Tok} {Q : Value → Shared → Prop} (F : Fm w B L cl s₀ m cm news ⟨h, g, d₀, tk₀, os⟩) (he : e = (a : Int) + n)
    (q : ∀ r h' t' u' v' tk', Fm w B L cl s₀ m cm ((r, ⟨.type "range", none, .fields #[.int (a : Int) t', .int ((a : Int) + n) u', .int 1 v'], #[]⟩) :: news) ⟨h', g, d, tk', os⟩ → Q (.ref r) ⟨h', g, d, tk', os⟩) :
    wpAny (M w) A (call (.type "range") [.int a t, .int e u]) Q E ⟨h, g, d, tk, os⟩ := by
  subst he
  refine call_range_2 ?_
  have F₂ := F.push1 (d := d) (tk := tk + 1) ⟨.type "range", none, .fields #[.int (a : Int) t, .int ((a : Int) + n) u, .int 1 tk], #[]⟩
  exact q _ _ t u tk _ F₂
/-- an iterator over a tracked list -/
theorem iter_list {x : Addr} {i : Nat} {vs : List Value} {k : Nat} {Q : Value → Shared → Prop} (F : Fm w B L cl s₀ m cm news ⟨h, g, d₀, tk₀, os⟩) (hi : news[i]? = some (x, lsO vs k))
    (q : ∀ I h', Fm w B L cl s₀ m cm ((I, itO x 0) :: news) ⟨h', g, d, tk, os⟩ → Q (.ref I) ⟨h', g, d, tk, os⟩) : wpAny (M w) A (pyIter (.ref x)) Q E ⟨h, g, d, tk, os⟩ := by
  refine wpAny_pyIter_list (items := vs.toArray) ⟨_, F.at i hi, rfl, _, rfl⟩ ?_
  have F₂ := F.push1 (d := d) (tk := tk) (itO x 0)
  exact q _ _ F₂
end
section
variable {w : World} {B : Heap} {C I D : Addr} {cl : List (PySem.Str × Addr)} {s₀ : Shared} {A : Around} {n : Nat} {P : Nat → Value → Prop} {Ob : Nat → Obj → Prop} {Sd : Heap → Prop}
  {elt target iter : Expr} {gens : List Comprehension} {scope : Scope} {pos : Pos} {d : Nat} {env : Env} {Q : Shared → Prop}
/-- a comprehension whose elements are plain values: nothing new stays -/
theorem comp_simple (S : Steps w I n P Ob Sd) (self : SelfI w I Ob) (hg : gens[d]? = some ⟨target, iter, [], 0⟩) (hn : gens[d + 1]? = none) (hh : A.handled = none) (hsz : n ≤ 100000) (R : Nat → Value → Prop)
    {m cm : PySem.Str → Option Value} {rest : List (Addr × Obj)} {k₀ : Nat} {o : Obj} {s : Shared} (ho : Ob 0 o) (F : Fm w B C cl s₀ m cm ((I, o) :: (D, lsO [] k₀) :: rest) s)
    (hSd : ∀ m l k s o, Fm w B C cl s₀ m cm ((I, o) :: (D, lsO l k) :: rest) s → Sd s.heap)
    (body : ∀ i v m l k o s (K : Value → Shared → Prop), i < n → P i v → Fm w B C cl s₀ m cm ((I, o) :: (D, lsO l k) :: rest) s →
      (∀ y m' s', R i y → Fm w B C cl s₀ m' cm ((I, o) :: (D, lsO l k) :: rest) s' → K y s') →
      wpAny (M w) A (letOwnedTupleGo target (.ref I) v) (fun _ s₁' => wpAny (M w) A (assign target env v) (fun _ s₂ => wpAny (M w) A (eval elt env) K NoE s₂) NoE s₁') NoE s)
    (hq : ∀ m' l k s', l.length = n → (∀ j y, l[j]? = some y → R j y) → Fm w B C cl s₀ m' cm ((D, lsO l k) :: rest) s' → Q s') : CompS w A (.ListComp elt gens scope pos) d (.ref I) (.ref D) env Q s := by
  refine comp_all S self hg hn hh (fun i m cm' news => cm' = cm ∧ ∃ l k, news = (D, lsO l k) :: rest ∧ l.length = i ∧ ∀ j y, l[j]? = some y → R j y) ?_ ho ⟨rfl, [], _, rfl, rfl, fun j y e => by simp at e⟩ F ?_ ?_
  · rintro i m cm' news s o ⟨rfl, l, k, rfl, _⟩ F
    exact hSd _ _ _ _ _ F
  · rintro i v m cm' news o s K hi hP ⟨rfl, l, k, rfl, hl, hR⟩ F q
    refine wpAny_mono (body i v m l k o s _ hi hP F fun y m' s' hy F' => ?_) (fun _ s₁ h₁ => wpAny_mono h₁ (fun _ s₂ h₂ => wpAny_tests_nil (by rw [if_pos rfl]; exact h₂)) fun _ _ z => z) fun _ _ z => z
    obtain ⟨h, g, dd, tk, os⟩ := s'
    refine app_at 1 F' rfl (by ktn_no "om") fun h' F'' => q _ _ _ _ ⟨rfl, l ++ [y], _, rfl, by simp [hl], fun j z e => ?_⟩ F''
    by_cases hj : j < l.length
    · rw [List.getElem?_append_left hj] at e; exact hR j z e
    · rw [List.getElem?_append_right (by ktn_no "om")] at e
      have : j - l.length = 0 := by
        have := (List.getElem?_eq_some_iff.mp e).1
        simp at this; (first | lia | omega)
      rw [this] at e
      have hji : j = i := by (first | lia | omega)
      subst hji
      cases e; exact hy
  · rintro m' cm' news' s' ⟨rfl, l, k, rfl, hl, hR⟩ F'
    exact hq _ _ _ _ hl hR F'
end
section
variable {w : World} {B : Heap} {L : Addr} {m : PySem.Str → Option Value} {cl : List (PySem.Str × Addr)} {cm : PySem.Str → Option Value} {news : List (Addr × Obj)} {s₀ : Shared} {A : Around}
  {h : Heap} {g : Array GenState} {d d₀ : Drawn} {tk tk₀ : Nat} {os : OsState} {E : Value → Shared → Prop} {env : Env}
/-- a slice of a tracked list -/
theorem list_slice {value : Expr} {lower upper : Option Expr} {p pos : Pos} {Q : Value → Shared → Prop} {s : Shared}
    (q : wpAny (M w) A (eval value env) (fun o s₁ => wpAny (M w) A (evalPart lower env) (fun vl s₂ => wpAny (M w) A (evalPart upper env) (fun vu s₃ =>
      ∃ (B : Heap) (L : Addr) (m : PySem.Str → Option Value) (cl : List (PySem.Str × Addr)) (cm : PySem.Str → Option Value) (news : List (Addr × Obj)) (s₀ : Shared) (x : Addr) (i : Nat) (vs : List Value) (k : Nat) (lo hi : Option Int), o = .ref x ∧ Fm w B L cl s₀ m cm news s₃ ∧ news[i]? = some (x, lsO vs k) ∧ vs.length ≤ 100000 ∧ IsPart vl lo ∧ IsPart vu hi ∧
        ∀ y h' k, Fm w B L cl s₀ m cm ((y, lsO (slicePick vs.toArray lo hi none).toList k) :: news) ⟨h', s₃.gens, s₃.drawn, s₃.toks, s₃.os⟩ → Q (.ref y) ⟨h', s₃.gens, s₃.drawn, s₃.toks, s₃.os⟩) E s₂) E s₁) E s)
    (ht : ∀ o r, letTemporaryGo value o r = pure () := by intro _ _; rfl) : wpAny (M w) A (eval (.Subscript value (.Slice lower upper none p) pos) env) Q E s := by
  refine wpAny_Subscript_list_slice (wpAny_mono q (fun o s₁ h₁ => wpAny_mono h₁ (fun vl s₂ h₂ => wpAny_mono h₂ (fun vu s₃ h₃ => ?_) fun _ _ z => z) fun _ _ z => z) fun _ _ z => z) ht
  obtain ⟨B, L, m, cl, cm, news, s₀, x, i, vs, k, lo, hi, rfl, F, hi', hsz, p1, p2, q⟩ := h₃
  refine ⟨x, vs.toArray, lo, hi, rfl, ⟨_, F.at i hi', rfl, _, rfl⟩, Nat.le_trans (by simpa using hsz) (show (100000 : Nat) ≤ sizeLine by decide), p1, p2, ?_⟩
  obtain ⟨h₃, g₃, d₃, k₃, o₃⟩ := s₃
  have F₁ := F.push1 (g := g₃) (d := d₃) (tk := k₃) ⟨.type "slice", none, .fields #[vl, vu, .none], #[]⟩
  have F₂ := (F₁.push1 (g := g₃) (d := d₃) (tk := k₃) ⟨.type "list", none, .seq (slicePick vs.toArray lo hi none), #[]⟩).erase 1
  rw [show (h₃.push ⟨.type "slice", none, .fields #[vl, vu, .none], #[]⟩).objs.size = h₃.objs.size + 1 from Heap.size_push _ _] at F₂
  exact q _ _ _ F₂
/-- an item of a tracked list -/
theorem list_item {s : Shared} {value slice : Expr} {x : Addr} {vs : List Value} {n : Nat} {k : Nat} {u : Tok} {v : Value} {Q : Value → Shared → Prop} (hx : s.heap.get? x = some (lsO vs n)) (hk : k < 100000) (hv : vs[k]? = some v) (q : Q v s)
    (hs : subscripted slice false (.ref x) (.int k u) = operate [.ref x, .int k u] (getItem (.ref x) (.int k u)) := by with_unfolding_all rfl) :
    wpAny (M w) A (subscriptTail value slice (.ref x) (.int k u)) Q E s := by
  have hl : s.heap.IsList x vs.toArray := ⟨_, hx, rfl, _, rfl⟩
  exact sub_tail hl.typeIs slot_list_getitem.lookup (fun _ _ _ h => wpAny_letTemporaryGo h) (wpAny_getItem_list hl (by ktn_no "om") (by ktn_no "om") (by simpa using hv) q) hs
end
/-- lists of ints in the heap -/
inductive Lists : List (List Int) → List Value → List (Addr × Obj) → Prop
  | nil : Lists [] [] []
  | snoc {xs vs l a y k} : Lists xs vs l → Lists (xs ++ [y.map (·.1)]) (vs ++ [.ref a]) (l ++ [(a, lsO (inV y) k)])
noncomputable abbrev nlS : PySem.Str := Str.ofString "\n"
noncomputable abbrev scS : PySem.Str := Str.ofString ";"
noncomputable def rowStrs (mx : Int) (ws : List PySem.Str) : List PySem.Str := let st := ws.foldl (fun st v => chunk mx st v) ([], []); st.1 ++ [accStr st.2]
noncomputable def rowV (mx : Int) (ws : List PySem.Str) : List Int := (Txt.split (Txt.join nlS (rowStrs mx ws)) nlS).map fun r => Txt.count r scS
noncomputable abbrev lrFor : Stmt := body_law_rows.getD 1 default
noncomputable abbrev lrT : Expr := (forParts lrFor).1
noncomputable abbrev lrB : List Stmt := (forParts lrFor).2.2.1
noncomputable abbrev lrFor2 : Stmt := lrB.getD 1 default
noncomputable abbrev lrT2 : Expr := (forParts lrFor2).1
noncomputable abbrev lrB2 : List Stmt := (forParts lrFor2).2.2.1
/-- words laid one behind the other -/
noncomputable def cat (l : List PySem.Str) : PySem.Str := ⟨(l.flatMap (·.cps.toList)).toArray⟩
theorem cat_nil : cat [] = ⟨#[]⟩ := rfl
theorem str_ext {a b : PySem.Str} (h : a.cps.toList = b.cps.toList) : a = b := by
  obtain ⟨⟨a⟩⟩ := a; obtain ⟨⟨b⟩⟩ := b; simp at h; rw [h]
theorem cat_list (l : List PySem.Str) : (cat l).cps.toList = l.flatMap (·.cps.toList) := by simp [cat]
theorem join_nil_cat : ∀ l : List PySem.Str, Str.join (⟨#[]⟩ : PySem.Str) l = cat l
  | [] => rfl
  | [a] => str_ext (by simp [cat, Str.join])
  | a :: b :: r => by
    have ih := join_nil_cat (b :: r)
    refine str_ext ?_
    show (a ++ (⟨#[]⟩ : PySem.Str) ++ Str.join (⟨#[]⟩ : PySem.Str) (b :: r)).cps.toList = _
    rw [ih, cat_list]
    simp only [Str.cps_append, Array.toList_append, cat_list]
    simp
noncomputable abbrev pr (v : PySem.Str) : PySem.Str × PySem.Str := (e0, v)
theorem e0_app (v : PySem.Str) : e0 ++ v = v := str_ext (by simp [Str.cps_append]; decide)
theorem accStr_cat (l : List PySem.Str) : accStr (l.map pr) = cat l := by
  unfold accStr
  rw [List.map_map, show ((fun y : PySem.Str × PySem.Str => y.1 ++ y.2) ∘ pr) = id from funext fun v => e0_app v, List.map_id]
  exact (StrLaws.glued_eq_join _ _).trans (join_nil_cat l)
noncomputable def lens (l : List PySem.Str) : Int := (l.map fun v => (v.length : Int)).sum
theorem accLen_lens (l : List PySem.Str) : accLen 0 (l.map pr) = lens l := by
  unfold accLen lens
  rw [List.map_map, show ((fun y : PySem.Str × PySem.Str => ((y.1.length : Int) + (y.2.length : Int))) ∘ pr) = (fun v : PySem.Str => (v.length : Int)) from funext fun v => by
    show ((e0.length : Nat) : Int) + _ = _
    rw [show e0.length = 0 by decide]; simp]
  simp
/-- one more word: into the row, or into a new one -/
noncomputable def gr (mx : Int) (st : List (List PySem.Str) × List PySem.Str) (v : PySem.Str) : List (List PySem.Str) × List PySem.Str :=
  if lens (st.2 ++ [v]) > mx ∧ st.2.isEmpty = false then (st.1 ++ [st.2], [v]) else (st.1, st.2 ++ [v])
noncomputable def rowsG (mx : Int) (ws : List PySem.Str) : List (List PySem.Str) := let st := ws.foldl (gr mx) ([], []); st.1 ++ [st.2]
theorem chunk_gr (mx : Int) (st : List (List PySem.Str) × List PySem.Str) (v : PySem.Str) : chunk mx (st.1.map cat, st.2.map pr) v = ((gr mx st v).1.map cat, (gr mx st v).2.map pr) := by
  unfold chunk gr
  have e : (st.2.map pr) ++ [(e0, v)] = (st.2 ++ [v]).map pr := by simp
  dsimp only
  rw [e, accLen_lens, show (st.2.map pr).isEmpty = st.2.isEmpty by cases st.2 <;> rfl, accStr_cat]
  split <;> simp
theorem fold_gr (mx : Int) : ∀ (ws : List PySem.Str) (st : List (List PySem.Str) × List PySem.Str), ws.foldl (fun st v => chunk mx st v) (st.1.map cat, st.2.map pr) = ((ws.foldl (gr mx) st).1.map cat, (ws.foldl (gr mx) st).2.map pr)
  | [], st => rfl
  | v :: ws, st => by rw [List.foldl_cons, List.foldl_cons, chunk_gr]; exact fold_gr mx ws _
theorem rowStrs_eq (mx : Int) (ws : List PySem.Str) : rowStrs mx ws = (rowsG mx ws).map cat := by
  unfold rowStrs rowsG
  have := fold_gr mx ws ([], [])
  simp only [List.map_nil] at this
  rw [this]
  simp [accStr_cat]
theorem gr_flat (mx : Int) (st : List (List PySem.Str) × List PySem.Str) (v : PySem.Str) : (gr mx st v).1.flatten ++ (gr mx st v).2 = (st.1.flatten ++ st.2) ++ [v] := by
  unfold gr; split <;> simp
theorem fold_flat (mx : Int) : ∀ (ws : List PySem.Str) (st : List (List PySem.Str) × List PySem.Str), (ws.foldl (gr mx) st).1.flatten ++ (ws.foldl (gr mx) st).2 = (st.1.flatten ++ st.2) ++ ws
  | [], st => by simp
  | v :: ws, st => by rw [List.foldl_cons, fold_flat mx ws, gr_flat]; simp
theorem rowsG_flat (mx : Int) (ws : List PySem.Str) : (rowsG mx ws).flatten = ws := by
  have := fold_flat mx ws ([], [])
  unfold rowsG
  simpa using this
theorem fold_count (mx : Int) : ∀ (ws : List PySem.Str) (st : List (List PySem.Str) × List PySem.Str), (ws.foldl (gr mx) st).1.length ≤ st.1.length + ws.length
  | [], st => by simp
  | v :: ws, st => by
    have := fold_count mx ws (gr mx st v)
    have h : (gr mx st v).1.length ≤ st.1.length + 1 := by unfold gr; split <;> simp
    simp only [List.foldl_cons, List.length_cons]
    (first | lia | omega)
theorem rowsG_length (mx : Int) (ws : List PySem.Str) : (rowsG mx ws).length ≤ ws.length + 1 := by
  have := fold_count mx ws ([], [])
  unfold rowsG
  simp at this ⊢
  exact this
theorem cat_length (l : List PySem.Str) : (cat l).length = (l.map (·.length)).sum := by
  show (cat l).cps.size = _
  rw [← Array.length_toList, cat_list, List.length_flatMap]
  rfl
theorem sum_le_flat {N : Nat} : ∀ (rows : List (List PySem.Str)), (rows.flatten.map (·.length)).sum ≤ N → ∀ r ∈ rows, (r.map (·.length)).sum ≤ N
  | [], _, r, h => by simp at h
  | a :: rows, hN, r, h => by
    rw [List.flatten_cons, List.map_append, List.sum_append] at hN
    rcases List.mem_cons.mp h with rfl | h
    · (first | lia | omega)
    · exact sum_le_flat rows (by ktn_no "om") r h
theorem row_le {mx : Int} {ws : List PySem.Str} {N : Nat} (h : (ws.map (·.length)).sum ≤ N) : ∀ y ∈ rowStrs mx ws, y.length ≤ N := by
  intro y hy
  rw [rowStrs_eq] at hy
  (refine x1_2 (List.mem_map.mp hy) ?_; intro r hr eqX2; subst eqX2)
  rw [cat_length]
  exact sum_le_flat (rowsG mx ws) (by rw [rowsG_flat]; exact h) r hr
theorem sum_le {N : Nat} : ∀ (ws : List PySem.Str), (∀ y ∈ ws, y.length ≤ N) → (ws.map (·.length)).sum ≤ ws.length * N
  | [], _ => by simp
  | a :: ws, h => by
    have := sum_le ws fun y hy => h y (.tail _ hy)
    have h2 := h a (.head _)
    simp only [List.map_cons, List.sum_cons, List.length_cons]
    rw [Nat.add_mul]; (first | lia | omega)
theorem join_length (sep : PySem.Str) : ∀ (l : List PySem.Str), (Str.join sep l).length ≤ (l.map (·.length)).sum + l.length * sep.length
  | [] => Nat.zero_le _
  | [a] => by simp [Str.join]
  | a :: b :: r => by
    have ih := join_length sep (b :: r)
    show (a ++ sep ++ Str.join sep (b :: r)).length ≤ _
    rw [Str.length_append, Str.length_append]
    simp only [List.map_cons, List.sum_cons, List.length_cons] at ih ⊢
    have e : (r.length + 1 + 1) * sep.length = (r.length + 1) * sep.length + sep.length := by rw [Nat.add_mul, Nat.one_mul]
    (first | lia | omega)
theorem joinOk_rows {mx : Int} {ws : List PySem.Str} (hn : ws.length ≤ 20) (h : ∀ y ∈ ws, y.length ≤ 100) : JoinOk nlS (rowStrs mx ws) = true ∧ (Txt.join nlS (rowStrs mx ws)).length ≤ 90000 := by
  have hs : (ws.map (·.length)).sum ≤ 2000 := Nat.le_trans (sum_le ws h) (by have := Nat.mul_le_mul_right 100 hn; (first | lia | omega))
  have hr := row_le (mx := mx) hs
  have hl : (rowStrs mx ws).length ≤ 21 := by rw [rowStrs_eq, List.length_map]; have := rowsG_length mx ws; (first | lia | omega)
  have h1 : nlS.length = 1 := by decide
  constructor
  · unfold JoinOk
    rw [StrLaws.joinFits hr (by rw [h1]; (first | lia | omega))]
    rfl
  · rw [show Txt.join nlS (rowStrs mx ws) = Str.join nlS (rowStrs mx ws) from StrLaws.glued_eq_join _ _]
    refine Nat.le_trans (join_length nlS _) ?_
    have := sum_le _ hr
    rw [h1]
    have := Nat.mul_le_mul_right 2000 hl
    (first | lia | omega)
section
variable {w : World} {B : Heap} {L I : Addr} {m : PySem.Str → Option Value} {cm : PySem.Str → Option Value} {own rest : List (Addr × Obj)} {s₀ s : Shared} {A : Around} {n : Nat} {Q : Flow → Shared → Prop} {x y : Addr} {mx : Int} {us : List (PySem.Str × Tok)} {ky : Nat}
theorem chunk_le (mx : Int) (st : List PySem.Str × List (PySem.Str × PySem.Str)) (v : PySem.Str) : (chunk mx st v).1.length ≤ st.1.length + 1 ∧ (chunk mx st v).2.length ≤ st.2.length + 1 := by
  unfold chunk; split <;> simp
theorem chunk_word (mx : Int) (st : List PySem.Str × List (PySem.Str × PySem.Str)) (v : PySem.Str) {c : Nat} (h : ∀ z ∈ st.2, Word c z) (hv : Word c (e0, v)) : ∀ z ∈ (chunk mx st v).2, Word c z := by
  unfold chunk
  split
  · intro z hz; simp at hz; rw [hz]; exact hv
  · intro z hz
    rcases List.mem_append.mp hz with hz | hz
    · exact h z hz
    · simp at hz; rw [hz]; exact hv
theorem rows_words (R : Room (n + 50) A) (hus : ∀ z ∈ us, Word 59 (e0, z.1)) (hul : us.length ≤ 50) :
    ∀ (k i : Nat) (m : PySem.Str → Option Value) (own : List (Addr × Obj)) (st : List PySem.Str × List (PySem.Str × PySem.Str)) (o : Obj) (s : Shared),
      i + k = us.length → o = itO y i → VfP x mx ⟨#[59]⟩ st.1 st.2 own → (∀ z ∈ st.2, Word 59 z) → st.1.length ≤ i → st.2.length ≤ i →
      Fm w B L [] s₀ m cm ((I, o) :: (y, lsO (strValues us) ky) :: (own ++ rest)) s → m "folder" = some (.ref x) →
      (∀ m' own' s', (∀ z : PySem.Str, z ≠ "word" → m' z = m z) → VfP x mx ⟨#[59]⟩ ((us.drop i).foldl (fun st v => chunk mx st v.1) st).1 ((us.drop i).foldl (fun st v => chunk mx st v.1) st).2 own' → Fm w B L [] s₀ m' cm (own' ++ rest) s' → Q .next s') →
      LoopC w A lrT2 (.ref I) lrB2 [] (callEnv fd_law_rows L a_law_rows) Q s
  | 0, i, m, own, st, o, s, hi, ho, P, hw, h1, h2, F, hf, hq => by
    refine loop_step ?_
    have S := steps_seq (w := w) I y (strValues us)
    have hsd := F.at 1 rfl
    obtain ⟨h, g, dd, tk, os⟩ := s
    refine F.endI S R.handled (by simp [strValues]; (first | lia | omega)) ho ⟨_, _, hsd, rfl⟩ fun h' tk' F' => ?_
    dsimp only
    refine wpAny_execs_nil (hq m own _ (fun _ _ => rfl) ?_ (F'.drop 1))
    rw [List.drop_eq_nil_of_le (by ktn_no "om")]
    exact P
  | k + 1, i, m, own, st, o, s, hi, ho, P, hw, h1, h2, F, hf, hq => by
    refine loop_step ?_
    have S := steps_seq (w := w) I y (strValues us)
    have hsd := F.at 1 rfl
    obtain ⟨h, g, dd, tk, os⟩ := s
    refine F.nextI (d := dd) S (by simp [strValues]; (first | lia | omega)) ho ⟨_, _, hsd, rfl⟩ fun v h₁ k₁ o₁ hv ho₁ F₁ => ?_
    have hlt : i < us.length := by (first | lia | omega)
    have e : us.drop i = us[i] :: us.drop (i + 1) := List.drop_eq_getElem_cons hlt
    have hv' : v = .str us[i].1 us[i].2 := by
      simp only [strValues, List.getElem?_map, List.getElem?_eq_getElem hlt] at hv
      exact (Option.some.inj hv).symm
    subst hv'
    clear hv hsd F
    dsimp only
    refine wpAny_pure (wpAny_assign_Name ?_)
    refine st_L F₁ (by kernel_rfl) (by kernel_rfl!) (by kernel_rfl) fun h₂ F₂ => ?_
    clear F₁
    have F₃ := F₂.perm (news' := own ++ ((I, o₁) :: (y, lsO (strValues us) ky) :: rest)) (by ktn_no "perm_tac")
    have P' := P
    obtain ⟨dv, kd, es, u1, u2, u3, u4, ll, ac, l, nl, oa, rfl, hE, hl1, hP⟩ := P
    clear F₂
    have hm1 : upd m "word" (.str us[i].1 us[i].2) "folder" = some (.ref x) := hf
    ktn_no "ast"
    ktn_no "y"
    refine vf_method F₃.K (F₃.at 0 rfl) (F₃.at 1 rfl) hE (by ktn_no "k_ev") (by ktn_no "k_ev") (by kernel_rfl) ?_
    ktn_no "y"
    refine append_chunk_spec (n := n) (R.less (by ktn_no "le")) (F₃.toks _) P' (by decide) (by decide +kernel) hw (hus _ (List.getElem_mem hlt)) (by ktn_no "om") (by ktn_no "om") fun own' s' P₄ F₄ => ?_
    obtain ⟨h₄, g₄, d₄, k₄, o₄⟩ := s'
    clear F₃ hE
    ktn_no "y"
    have hc := chunk_le mx st us[i].1
    have hw' := chunk_word mx st us[i].1 hw (hus _ (List.getElem_mem hlt))
    refine rows_words R hus hul k (i + 1) _ own' (chunk mx st us[i].1) o₁ _ (by ktn_no "om") ho₁ P₄ hw' (by ktn_no "om") (by ktn_no "om") (F₄.perm (by ktn_no "perm_tac")) hm1 fun m' own'' s'' hm' P₅ F₅ => ?_
    refine hq m' own'' s'' (fun z hz => (hm' z hz).trans (if_neg hz)) ?_ F₅
    rw [e, List.foldl_cons]
    exact P₅
end
section
open Builtin Builtin.Str
section
variable {w : World} {A : Around} {E : Value → Shared → Prop} {h : Heap} {g : Array GenState} {d : Drawn} {tk : Nat} {os : OsState} {x y : PySem.Str} {t u : Tok} {Q : Value → Shared → Prop}
theorem parts_le (x y : PySem.Str) : (Txt.split x y).length ≤ x.length + 2 := by
  unfold Txt.split
  split
  · simp
  · split
    · simp
    · rw [length_partsBetween]
      have := StrLaws.occ_length_le_len x y 0 x.length (x.length + 1)
      (first | lia | omega)
theorem str_split (hy : (y.length == 0) = false) (hx : x.length ≤ 100000)
    (q : ∀ l tk', l.map (·.1) = Txt.split x y → Q (.ref h.objs.size) ⟨h.push ⟨.type "list", none, .seq (strValues l).toArray 0, #[]⟩, g, d, tk', os⟩) :
    wpAny (M w) A (call (.builtin "str.split") [.str x t, .str y u]) Q E ⟨h, g, d, tk, os⟩ := by
  have hsz : x.length ≤ sizeLine := Nat.le_trans hx (by decide)
  cases h1 : (decide (x.length < y.length) || decide (strKind x < strKind y))
  · cases hf : (occurrences x y 0 x.length (x.length + 1)).isEmpty
    · refine call_meets F.slot_str_split (typeIs_str _ _ _) F.entry_str_split (F.args_str_split_2 _ _) (meets_str_split_sep x y t u h1 hy hf hsz ?_) ?_
      · rw [length_partsBetween]
        have := StrLaws.occ_length_le_len x y 0 x.length (x.length + 1)
        exact Nat.le_trans (show _ ≤ 100002 by (first | lia | omega)) (by decide)
      rw [strsFrom_eq]
      exact q (numbered tk _) _ ((numbered_texts _ _).trans ((if_neg (ne_true_of_eq_false h1)).trans (if_neg (ne_true_of_eq_false hf))).symm)
    · exact call_meets F.slot_str_split (typeIs_str _ _ _) F.entry_str_split (F.args_str_split_2 _ _) (meets_str_split_not_found x y t u h1 hy hf)
        (q [(x, t)] _ ((if_neg (ne_true_of_eq_false h1)).trans (if_pos hf)).symm)
  · exact call_meets F.slot_str_split (typeIs_str _ _ _) F.entry_str_split (F.args_str_split_2 _ _) (meets_str_split_cannot_occur x y t u h1)
      (q [(x, t)] _ (if_pos h1).symm)
end

end
section
variable {w : World} {B : Heap} {L I : Addr} {m : PySem.Str → Option Value} {cm : PySem.Str → Option Value} {own rest : List (Addr × Obj)} {s₀ s : Shared} {A : Around} {n : Nat} {Q : Flow → Shared → Prop} {wl rl : Addr} {mx : Int} {us : List (PySem.Str × Tok)} {nw : Nat} {tw : Tok}
theorem e59 : (Str.ofString ";" : PySem.Str) = ⟨#[59]⟩ := by decide
theorem Lists.len {xs : List (List Int)} {vs : List Value} {l : List (Addr × Obj)} (h : Lists xs vs l) : vs.length = xs.length := by
  induction h with
  | nil => rfl
  | snoc _ ih => simp [ih]
theorem ints_of : ∀ (ls : List Value) (f : Nat → Int), (∀ j v, ls[j]? = some v → ∃ t, v = Value.int (f j) t) → ∃ y, ls = inV y ∧ y.map (·.1) = (List.range ls.length).map f
  | [], f, _ => ⟨[], rfl, rfl⟩
  | v :: ls, f, h => by
    obtain ⟨t, rfl⟩ := h 0 v rfl
    (refine x1_2 (ints_of ls (fun j => f (j + 1)) fun j v e => h (j + 1) v (by simpa using e)) ?_; intro y hy he)
    refine ⟨(f 0, t) :: y, by rw [hy]; rfl, ?_⟩
    rw [List.map_cons, he, List.length_cons, List.range_succ_eq_map, List.map_cons, List.map_map]
    rfl
theorem range_getD {α β : Type} (l : List α) (d : α) (f : α → β) : (List.range l.length).map (fun j => f (l.getD j d)) = l.map f := by
  apply List.ext_getElem (by simp)
  intro j h1 h2
  simp at h1
  simp [List.getElem?_eq_getElem h1]
theorem fold_facts (mx : Int) : ∀ (ws : List PySem.Str) (st : List PySem.Str × List (PySem.Str × PySem.Str)), (∀ z ∈ st.2, Word 59 z) → (∀ y ∈ ws, Word 59 (e0, y)) →
    (∀ z ∈ (ws.foldl (fun st v => chunk mx st v) st).2, Word 59 z) ∧ (ws.foldl (fun st v => chunk mx st v) st).1.length ≤ st.1.length + ws.length ∧ (ws.foldl (fun st v => chunk mx st v) st).2.length ≤ st.2.length + ws.length ∧
      ((ws ≠ [] ∨ st.2 ≠ []) → (ws.foldl (fun st v => chunk mx st v) st).2 ≠ [])
  | [], st, h, _ => ⟨h, Nat.le_refl _, Nat.le_refl _, fun h => h.resolve_left (fun z => z rfl)⟩
  | v :: ws, st, h, hw => by
    have hc := chunk_le mx st v
    have hn : (chunk mx st v).2 ≠ [] := by unfold chunk; split <;> simp
    (refine x0_4 (fold_facts mx ws (chunk mx st v) (chunk_word mx st v h (hw v (.head _))) fun y hy => hw y (.tail _ hy)) ?_; intro a b c d)
    rw [List.foldl_cons, List.length_cons]
    exact ⟨a, by (first | lia | omega), by (first | lia | omega), fun _ => d (.inr hn)⟩
theorem rows_go (R : Room (n + 60) A) (hus : ∀ z ∈ us, Word 59 (e0, z.1)) (hu1 : ∀ z ∈ us, z.1.length ≤ 100) (hul : us.length = 6) (hm : (wl, lsO (strValues us) nw) ∈ rest) :
    ∀ (k i : Nat) (m : PySem.Str → Option Value) (xs : List (List Int)) (vs : List Value) (l : List (Addr × Obj)) (kk : Nat) (o : Obj) (s : Shared),
      i + k = 6 → ObR 0 6 i o → Lists xs vs l → xs = (List.range i).map (fun p => rowV mx ((us.map (·.1)).drop p)) → 
      Fm w B L [] s₀ m cm ((I, o) :: (rl, lsO vs kk) :: (l ++ rest)) s → m "words" = some (.ref wl) → m "width" = some (.int mx tw) → m "rows" = some (.ref rl) →
      (∀ m' vs' l' kk' s', Lists ((List.range 6).map (fun p => rowV mx ((us.map (·.1)).drop p))) vs' l' → m' "rows" = some (.ref rl) → Fm w B L [] s₀ m' cm ((rl, lsO vs' kk') :: (l' ++ rest)) s' → Q .next s') →
      LoopC w A lrT (.ref I) lrB [] (callEnv fd_law_rows L a_law_rows) Q s
  | 0, i, m, xs, vs, l, kk, o, s, hi, ho, hL, hx, F, m1, m2, m3, hq => by
    refine loop_step ?_
    have S := steps_range (w := w) I 0 1 6
    obtain ⟨h, g, dd, tk, os⟩ := s
    refine F.endI S R.handled (by ktn_no "om") ho trivial fun h' tk' F' => ?_
    dsimp only
    have : i = 6 := by (first | lia | omega)
    subst this
    exact wpAny_execs_nil (hq m vs l kk _ (hx ▸ hL) m3 F')
  | k + 1, i, m, xs, vs, l, kk, o, s, hi, ho, hL, hx, F, m1, m2, m3, hq => by
    refine loop_step ?_
    have S := steps_range (w := w) I 0 1 6
    obtain ⟨h, g, dd, tk, os⟩ := s
    refine F.nextI (d := dd) S (by ktn_no "om") ho trivial fun v h₁ k₁ o₁ hv ho₁ F₁ => ?_
    obtain ⟨ti, rfl⟩ := hv
    rw [show (0 : Int) + (i : Int) * 1 = (i : Int) by (first | lia | omega)] 
    dsimp only
    refine wpAny_pure (wpAny_assign_Name ?_)
    refine st_L F₁ (by kernel_rfl) (by kernel_rfl!) (by kernel_rfl) fun h₂ F₂ => ?_
    clear F F₁
    have hm1 : upd m "start" (.int i ti) "words" = some (.ref wl) := m1
    have hm2 : upd m "start" (.int i ti) "width" = some (.int mx tw) := m2
    have hm3 : upd m "start" (.int i ti) "rows" = some (.ref rl) := m3
    have hm4 : upd m "start" (.int i ti) "start" = some (.int i ti) := rfl
    revert hm1 hm2 hm3 hm4 F₂
    generalize upd m "start" (.int i ti) = m₂
    intro F₂ m1 m2 m3 m4
    ktn_no "ast"
    ktn_no "y"
    refine vf_make (n := n) (R.less (by ktn_no "le")) (F₂.toks _) fun x own s' P F₃ => ?_
    rw [e59] at P
    obtain ⟨h₃, g₃, d₃, k₃, o₃⟩ := s'
    clear F₂
    ktn_no "y"
    rename_i h₄ F₄
    have n1 : upd m₂ "folder" (.ref x) "words" = some (.ref wl) := m1
    have n2 : upd m₂ "folder" (.ref x) "width" = some (.int mx tw) := m2
    have n3 : upd m₂ "folder" (.ref x) "rows" = some (.ref rl) := m3
    have n4 : upd m₂ "folder" (.ref x) "start" = some (.int i ti) := m4
    have n5 : upd m₂ "folder" (.ref x) "folder" = some (.ref x) := rfl
    revert n1 n2 n3 n4 n5 F₄
    generalize upd m₂ "folder" (.ref x) = m₄
    intro F₄ n1 n2 n3 n4 n5
    clear F₃ m1 m2 m3 m4
    refine wFor ?_ (fun x => rfl)
    refine list_slice ?_
    ktn_no "y"
    refine evalPart_some_step ?_
    ktn_no "y"
    refine evalPart_none_step ?_
    obtain ⟨j, hj⟩ := List.getElem?_of_mem (show (wl, lsO (strValues us) nw) ∈ own ++ ((I, o₁) :: (rl, lsO vs kk) :: (l ++ rest)) by simp [hm])
    refine ⟨_, _, _, _, _, _, _, _, j, _, _, _, _, rfl, F₄.toks _, hj, by simp [strValues]; (first | lia | omega), .int _ _, .none, fun y h₅ ky F₆ => ?_⟩
    rw [slicePick_from'] at F₆
    rw [show (List.drop i (strValues us).toArray.toList).toArray.toList = strValues (us.drop i) by simp [strValues]] at F₆
    clear F₄ hj
    refine iter_list F₆ (i := 0) rfl fun I₂ h₇ F₇ => ?_
    clear F₆
    have hus' : ∀ z ∈ us.drop i, Word 59 (e0, z.1) := fun z hz => hus z (List.mem_of_mem_drop hz)
    refine rows_words (n := n) (cm := cm) (us := us.drop i) (x := x) (y := y) (mx := mx) (ky := ky) (rest := (I, o₁) :: (rl, lsO vs kk) :: (l ++ rest)) (R.less (by ktn_no "le")) hus' (by simp; (first | lia | omega)) (us.drop i).length 0 m₄ own ([], []) _ _ (by ktn_no "om") rfl P (fun z hz => by simp at hz) (Nat.le_refl _) (Nat.le_refl _) (F₇.perm (by ktn_no "perm_tac")) n5 fun m' own' s' hm' P₈ F₈ => ?_
    obtain ⟨h₈, g₈, d₈, k₈, o₈⟩ := s'
    have q1 : m' "words" = some (.ref wl) := (hm' _ (by decide)).trans n1
    have q2 : m' "width" = some (.int mx tw) := (hm' _ (by decide)).trans n2
    have q3 : m' "rows" = some (.ref rl) := (hm' _ (by decide)).trans n3
    have q5 : m' "folder" = some (.ref x) := (hm' _ (by decide)).trans n5
    clear F₇ n1 n2 n3 n4 n5 P
    dsimp only
    ktn_no "y"
    have F₉ := F₈.perm (news' := (rl, lsO vs kk) :: (own' ++ (I, o₁) :: (l ++ rest))) (by ktn_no "perm_tac")
    clear F₈
    refine Calls.getMethod_list_append (F₉.at 0 rfl) rfl rfl ?_
    ktn_no "y"
    refine list_comp (B := B) (L := L) (m := m') (cl := []) (cm := cm) (s₀ := s₀) (cl' := []) (by kernel_rfl) (by kernel_rfl) (by kernel_rfl) (by kernel_rfl) (fun _ => rfl) (fun _ _ e => e) ?_
    have P' := P₈
    obtain ⟨dv, kd, es, u1, u2, u3, u4, ll, ac, l0, nl, oa, rfl, hE, hl1, hP⟩ := P₈
    have F₁₀ := F₉.perm (news' := ((x, vfO dv) :: (dv, dictOf es kd) :: (ll, lsO (strValues l0) nl) :: oa) ++ ((rl, lsO vs kk) :: (I, o₁) :: (l ++ rest))) (by ktn_no "perm_tac")
    ktn_no "y"
    refine vf_method F₁₀.K (F₁₀.at 0 rfl) (F₁₀.at 1 rfl) hE (by ktn_no "k_ev") (by ktn_no "k_ev") (by kernel_rfl) ?_
    ktn_no "y"
    have ef : (us.drop i).foldl (fun st v => chunk mx st v.1) ([], []) = ((us.map (·.1)).drop i).foldl (fun st v => chunk mx st v) ([], []) := by rw [← List.map_drop, List.foldl_map]
    simp only [List.drop_zero] at P' hl1 hP
    rw [ef] at P' hl1 hP
    obtain ⟨f1, f2, f3, f4⟩ := fold_facts mx ((us.map (·.1)).drop i) ([], []) (fun z hz => by simp at hz) fun y hy => by
      (refine x1_2 (List.mem_map.mp (List.mem_of_mem_drop hy)) ?_; intro z hz eqX2; subst eqX2)
      exact hus z hz
    have hne : (us.map (·.1)).drop i ≠ [] := by
      intro z
      have := congrArg List.length z
      simp at this; (first | lia | omega)
    have hj := joinOk_rows (mx := mx) (ws := (us.map (·.1)).drop i) (by simp; (first | lia | omega)) fun y hy => by
      (refine x1_2 (List.mem_map.mp (List.mem_of_mem_drop hy)) ?_; intro z hz eqX2; subst eqX2)
      exact hu1 z hz
    simp only [List.length_drop, List.length_map, List.length_nil, Nat.zero_add] at f2 f3
    refine vfstr_spec (n := n) (c := 59) (R.less (by ktn_no "le")) (F₁₀.toks _) P' (by decide +kernel) (f4 (.inl hne)) f1 (by ktn_no "om") (by ktn_no "om") hj.1 fun t₁ own2 s' P₁₁ F₁₁ => ?_
    obtain ⟨h₁₁, g₁₁, d₁₁, k₁₁, o₁₁⟩ := s'
    clear F₉ F₁₀
    ktn_no "y"
    refine GM.split ?_
    ktn_no "y"
    refine str_split (by decide) (Nat.le_trans hj.2 (by decide)) fun lp k₁₂ hlp => ?_
    have hlp : lp.map (·.1) = Txt.split (Txt.join nlS (rowStrs mx ((us.map (·.1)).drop i))) nlS := hlp
    have F₁₂ := F₁₁.push1 (g := g₁₁) (d := d₁₁) (tk := k₁₂) (lsO (strValues lp) 0)
    refine iter_list F₁₂ (i := 0) rfl fun I₃ h₁₃ F₁₃ => ?_
    clear F₁₁ F₁₂
    refine ⟨_, F₁₃, fun D C s₃ s₄ _ F₁₄ G => ?_⟩
    have G₁ := G.perm (news' := (I₃, itO h₁₁.objs.size 0) :: (D, lsO [] 0) :: (h₁₁.objs.size, lsO (strValues lp) 0) :: (own2 ++ ((rl, lsO vs kk) :: (I, o₁) :: (l ++ rest)))) (by ktn_no "perm_tac")
    refine comp_simple (steps_seq I₃ h₁₁.objs.size (strValues lp)) (self_seq I₃ h₁₁.objs.size) rfl rfl R.handled ?_ (fun j v => ∃ t, v = .int (Txt.count (lp.getD j default).1 scS) t) rfl G₁ (fun m l k s o F => ⟨_, _, F.at 2 rfl, rfl⟩) (fun j v m0 l1 k0 o0 s0 K hj hv G₂ q => ?_) (fun m₅ ls kd s' hl hv G₃ => ?_)
    · have := parts_le (Txt.join nlS (rowStrs mx ((us.map (·.1)).drop i))) nlS
      have hlen := congrArg List.length hlp
      simp only [List.length_map] at hlen
      have := hj.2
      simp only [strValues, List.length_map]
      (first | lia | omega)
    · obtain ⟨h, g, d, tk, os⟩ := s0
      have hlt : j < lp.length := by simpa [strValues] using hj
      have hv' : v = .str lp[j].1 lp[j].2 := by
        simp only [strValues, List.getElem?_map, List.getElem?_eq_getElem hlt] at hv
        exact (Option.some.inj hv).symm
      subst hv'
      refine wpAny_pure (wpAny_assign_Name ?_)
      refine st_L G₂ (by kernel_rfl) (by kernel_rfl!) (by kernel_rfl) fun h₂ G₃ => ?_
      clear G G₁ G₂ F₁₃ F₁₄
      ktn_no "y"
      refine GM.count ?_
      ktn_no "y"
      refine SC.count ?_
      have hy : ∀ t, ∃ t', Value.int (Txt.count lp[j].1 scS) t = Value.int (Txt.count (lp.getD j default).1 scS) t' := fun t => ⟨t, by
        rw [List.getD_eq_getElem?_getD, List.getElem?_eq_getElem hlt]; rfl⟩
      exact q _ _ _ (hy _) (G₃.toks _)
    · refine ⟨_, _, _, _, G₃, fun s'' F₂₀ => ?_⟩
      obtain ⟨h, g, d, tk, os⟩ := s''
      (refine x1_2 (ints_of ls _ hv) ?_; intro yl eqX1 hy; subst eqX1)
      have F₂₀ := F₂₀.perm (news' := (rl, lsO vs kk) :: (D, lsO (inV yl) kd) :: (h₁₁.objs.size, lsO (strValues lp) 0) :: (own2 ++ (I, o₁) :: (l ++ rest))) (by ktn_no "perm_tac")
      ktn_no "y"
      refine app_at 0 F₂₀ rfl (by rw [hL.len, hx]; simp; (first | lia | omega)) fun h₂₁ F₂₁ => ?_
      ktn_no "y"
      have hyl : yl.map (·.1) = rowV mx ((us.map (·.1)).drop i) := by
        rw [hy]
        unfold rowV
        rw [← hlp, List.map_map, hl, show (strValues lp).length = lp.length by simp [strValues]]
        exact range_getD lp default (fun z => Txt.count z.1 scS)
      dsimp only [List.set] at F₂₁
      have F₂₂ := (F₂₁.erase 2).perm (news' := own2 ++ ((I, o₁) :: (rl, lsO (vs ++ [.ref D]) (kk + 1)) :: ((l ++ [(D, lsO (inV yl) kd)]) ++ rest))) (by simp only [List.eraseIdx]; ktn_no "perm_tac")
      have F₂₃ := F₂₂.sub (List.sublist_append_right own2 _)
      refine rows_go R hus hu1 hul hm k (i + 1) m' (xs ++ [yl.map (·.1)]) (vs ++ [.ref D]) (l ++ [(D, lsO (inV yl) kd)]) (kk + 1) o₁ _ (by ktn_no "om") ho₁ hL.snoc ?_ (F₂₃.toks _) q1 q2 q3 hq
      rw [hyl, hx, List.range_succ, List.map_append]
      rfl
end
section
variable {w : World} {B : Heap} {L : Addr} {m : PySem.Str → Option Value} {cl : List (PySem.Str × Addr)} {cm : PySem.Str → Option Value} {rest : List (Addr × Obj)} {s₀ s : Shared} {A : Around} {E : Value → Shared → Prop} {n : Nat} {Q : Value → Shared → Prop} {wl : Addr} {mx : Int} {us : List (PySem.Str × Tok)} {nw : Nat} {tw : Tok}
theorem rows_spec (R : Room (n + 61) A) (F : Fm w B L cl s₀ m cm rest s) (hus : ∀ z ∈ us, Word 59 (e0, z.1)) (hu1 : ∀ z ∈ us, z.1.length ≤ 100) (hul : us.length = 6) (hm : (wl, lsO (strValues us) nw) ∈ rest)
    (h : ∀ rl vs l kk s', Lists ((List.range 6).map (fun p => rowV mx ((us.map (·.1)).drop p))) vs l → Fm w B L cl s₀ m cm ((rl, lsO vs kk) :: (l ++ rest)) s' → Q (.ref rl) s') :
    wpAny (M w) A (call (.ref a_law_rows) [.ref wl, .int mx tw] []) Q E s := by
  refine call_fn (binds := [("words", .ref wl), ("width", .int mx tw)]) (fd := fd_law_rows) (cmF := fun _ => none) R F (lk_law_rows _) (cd_law_rows _) rfl (BindsTo.of_eq rfl) (by decide) (by kernel_rfl) (fun _ _ e => (by cases e)) (fun _ _ _ e => (by cases e)) ?_ rfl rfl rfl
  intro Qo hQo L' s₁ hL F₁ R₁
  obtain ⟨h₁, g₁, d₁, k₁, o₁⟩ := s₁
  ktn_no "ast"
  ktn_no "y"
  refine st_newList (by simp) ?_
  have F₂ := F₁.push1 (g := g₁) (d := d₁) (tk := k₁) (lsO [] 0)
  ktn_no "y"
  rename_i h₃ F₃
  refine wFor ?_ (fun x => rfl)
  clear F₁ F₂
  ktn_no "y"
  refine range1 F₃ fun r h₄ t' u' v' k₄ F₄ => ?_
  refine iter_range F₄ (by decide) fun I o h₅ ho F₅ => ?_
  clear F₃ F₄
  refine rows_go (n := n) (cm := fun _ => none) (rest := rest) (wl := wl) (rl := h₁.objs.size) (mx := mx) (us := us) (nw := nw) (tw := tw) R₁ hus hu1 hul hm 6 0 _ [] [] [] 0 _ _ rfl ho .nil rfl F₅ (by ktn_no "k_val") (by ktn_no "k_val") (by ktn_no "k_val") fun m' vs' l' kk' s' hL hm' F₆ => ?_
  obtain ⟨h₆, g₆, d₆, k₆, o₆⟩ := s'
  clear F₅
  dsimp only
  ktn_no "y"
  exact hQo _ _ <| Back.of (F₆.toks _) fun G => h _ _ _ _ _ hL G
end
theorem isL {h : Heap} {x : Addr} {vs : List Value} {k : Nat} (e : h.get? x = some (lsO vs k)) : h.IsList x vs.toArray := ⟨_, e, rfl, _, rfl⟩
theorem noD {h : Heap} {x : Addr} {vs : List Value} {k : Nat} (e : h.get? x = some (lsO vs k)) : h.NoDictAt (.ref x) := by
  unfold Heap.NoDictAt; exact ⟨_, e, rfl⟩
theorem intsAre : ∀ l : List (Int × Tok), IntsAre (inV l) (l.map (·.1))
  | [] => .nil
  | (k, t) :: l => .cons k t (intsAre l)
theorem mulOk (x : PySem.Str) (n : Nat) (hx : x.length ≤ 100) (hn : n ≤ 1000) : MulOk x n := by
  refine ⟨by simp; (first | lia | omega), fun h1 _ => ?_, fun _ _ => ?_⟩
  · have h2 : (1 : Int) ≤ n := by (first | lia | omega)
    have : (1000 : Int) ≤ (2 ^ 63 - 1) / (n : Int) := by
      refine Int.le_ediv_of_mul_le (by ktn_no "om") ?_
      (first | lia | omega)
    (first | lia | omega)
  · unfold Builtin.Str.tooLong
    rw [Int.toNat_natCast]
    have : x.length * n ≤ 100 * 1000 := Nat.mul_le_mul hx hn
    have hz : (100000 : Nat) ≤ sizeLine := by decide
    simp
    (first | lia | omega)
theorem mul_length (x : PySem.Str) (n : Nat) : (Txt.mul x n).length ≤ x.length * n := by
  unfold Txt.mul
  split
  · exact Nat.zero_le _
  · rename_i h1
    split
    · exact Nat.le_mul_of_pos_right _ (by ktn_no "om")
    · show ((List.replicate ((n : Int).toNat) x.cps).foldl (· ++ ·) #[]).size ≤ _
      rw [Int.toNat_natCast]
      have key : ∀ (k : Nat) (a : Array Nat), ((List.replicate k x.cps).foldl (· ++ ·) a).size = a.size + x.length * k := fun k => by
        induction k with
        | zero => intro a; simp
        | succ k ih => intro a; rw [List.replicate_succ, List.foldl_cons, ih, Array.size_append, Nat.mul_succ]; show a.size + x.length + _ = _; (first | lia | omega)
      rw [key]; simp
section
variable {w : World} {A : Around} {E : Value → Shared → Prop} {s : Shared} {x : PySem.Str} {t u : Tok} {Q : Value → Shared → Prop}
theorem str_mul {n : Nat} (hx : x.length ≤ 100) (hn : n ≤ 1000) (h : ∀ t' k, Q (.str (Txt.mul x n) t') { s with toks := k }) : wpAny (M w) A (binaryOp .Mult (.str x t) (.int n u)) Q E s :=
  SB.mul (mulOk x n hx hn) h
noncomputable def queueGo (rs : List Int) (ms : List PySem.Str) (p : Nat) (t : PySem.Str) : PySem.Str := t ++ (Txt.mul cCl (rs.count (p : Int)) ++ cOp ++ ms.getD p default)
noncomputable def queueF (rs : List Int) (ms : List PySem.Str) : PySem.Str := (List.range 6).foldl (fun t p => queueGo rs ms p t) e0 ++ Txt.mul cCl (rs.count (6 : Int))
noncomputable abbrev lqFor : Stmt := body_law_queue.getD 1 default
noncomputable abbrev lqT : Expr := (forParts lqFor).1
noncomputable abbrev lqB : List Stmt := (forParts lqFor).2.2.1
end
section
variable {w : World} {B : Heap} {L I : Addr} {m : PySem.Str → Option Value} {cl : List (PySem.Str × Addr)} {cm : PySem.Str → Option Value} {rest : List (Addr × Obj)} {s₀ s : Shared} {A : Around} {E : Value → Shared → Prop} {n : Nat} {ra ma : Addr} {rs : List (Int × Tok)} {ms : List (PySem.Str × Tok)} {k1 k2 : Nat}
theorem queue_go {Q : Flow → Shared → Prop} (R : Room (n + 5) A) (hrs : rs.length ≤ 6) (hms : ms.length = 6) (hml : ∀ y ∈ ms, y.1.length ≤ 10) (hr : (ra, lsO (inV rs) k1) ∈ rest) (hm : (ma, lsO (strValues ms) k2) ∈ rest) :
    ∀ (k i : Nat) (m : PySem.Str → Option Value) (text : PySem.Str) (o : Obj) (s : Shared) (t : Tok),
      i + k = 6 → ObR 0 6 i o → text = (List.range i).foldl (fun t p => queueGo (rs.map (·.1)) (ms.map (·.1)) p t) e0 → text.length ≤ 100 * i →
      Fm w B L [] s₀ m cm ((I, o) :: rest) s → m "reach" = some (.ref ra) → m "marks" = some (.ref ma) → m "text" = some (.str text t) →
      (∀ m' t' s', m' "reach" = some (.ref ra) → m' "text" = some (.str ((List.range 6).foldl (fun t p => queueGo (rs.map (·.1)) (ms.map (·.1)) p t) e0) t') → ((List.range 6).foldl (fun t p => queueGo (rs.map (·.1)) (ms.map (·.1)) p t) e0).length ≤ 600 → Fm w B L [] s₀ m' cm rest s' → Q .next s') →
      LoopC w A lqT (.ref I) lqB [] (callEnv fd_law_queue L a_law_queue) Q s
  | 0, i, m, text, o, s, t, hi, ho, hx, hl, F, m1, m2, m3, hq => by
    refine loop_step ?_
    have S := steps_range (w := w) I 0 1 6
    obtain ⟨h, g, dd, tk, os⟩ := s
    refine F.endI S R.handled (by ktn_no "om") ho trivial fun h' tk' F' => ?_
    dsimp only
    have : i = 6 := by (first | lia | omega)
    subst this
    subst hx
    exact wpAny_execs_nil (hq m t _ m1 m3 hl F')
  | k + 1, i, m, text, o, s, t, hi, ho, hx, hl, F, m1, m2, m3, hq => by
    refine loop_step ?_
    have S := steps_range (w := w) I 0 1 6
    obtain ⟨h, g, dd, tk, os⟩ := s
    refine F.nextI (d := dd) S (by ktn_no "om") ho trivial fun v h₁ k₁ o₁ hv ho₁ F₁ => ?_
    obtain ⟨ti, rfl⟩ := hv
    rw [show (0 : Int) + (i : Int) * 1 = (i : Int) by (first | lia | omega)]
    dsimp only
    refine wpAny_pure (wpAny_assign_Name ?_)
    refine st_L F₁ (by kernel_rfl) (by kernel_rfl!) (by kernel_rfl) fun h₂ F₂ => ?_
    clear F F₁
    have n1 : upd m "place" (.int i ti) "reach" = some (.ref ra) := m1
    have n2 : upd m "place" (.int i ti) "marks" = some (.ref ma) := m2
    have n3 : upd m "place" (.int i ti) "text" = some (.str text t) := m3
    have n4 : upd m "place" (.int i ti) "place" = some (.int i ti) := rfl
    revert n1 n2 n3 n4 F₂
    generalize upd m "place" (.int i ti) = m₂
    intro F₂ n1 n2 n3 n4
    ktn_no "ast"
    ktn_no "y"
    have gr : h₂.get? ra = some (lsO (inV rs) k1) := (F₂.nw _ (.tail _ hr)).1
    have gm : h₂.get? ma = some (lsO (strValues ms) k2) := (F₂.nw _ (.tail _ hm)).1
    refine getMethod_list_of PySem.F.slot_list_count PySem.F.type_list_count (isL gr) (noD gr) ?_
    ktn_no "y"
    refine count_list_ints (isL gr) (intsAre rs) ?_
    have hc : (rs.map (·.1)).count (i : Int) ≤ 6 := Nat.le_trans List.count_le_length (by simpa using hrs)
    refine str_mul (x := cCl) (by decide) (by ktn_no "om") fun t₅ k₅ => ?_
    have hml1 : (Txt.mul cCl ((rs.map (·.1)).count (i : Int))).length ≤ 6 := Nat.le_trans (mul_length _ _) (by rw [show cCl.length = 1 by decide]; (first | lia | omega))
    ktn_no "y"
    refine SB.add (fun t₆ k₆ => ?_) (by have : (100000 : Nat) ≤ sizeLine := by decide
                                        have : (Str.ofString "(").length = 1 := by decide
                                        (first | lia | omega))
    ktn_no "y"
    have hmi : (strValues ms)[i]? = some (.str (ms[i]'(by ktn_no "om")).1 (ms[i]'(by ktn_no "om")).2) := by simp [strValues, List.getElem?_eq_getElem (show i < ms.length by (first | lia | omega))]
    refine list_item gm (by ktn_no "om") hmi ?_
    refine SB.add (fun t₇ k₇ => ?_) (by have : (100000 : Nat) ≤ sizeLine := by decide
                                        have : (Str.ofString "(").length = 1 := by decide
                                        have := hml _ (List.getElem_mem (show i < ms.length by (first | lia | omega)))
                                        rw [Str.length_append]
                                        (first | lia | omega))
    have hg : (ms.map (·.1)).getD i default = (ms[i]'(by ktn_no "om")).1 := by
      rw [List.getD_eq_getElem?_getD, List.getElem?_map, List.getElem?_eq_getElem (show i < ms.length by (first | lia | omega))]; rfl
    have hml2 := hml _ (List.getElem_mem (show i < ms.length by (first | lia | omega)))
    refine SB.iadd (fun t₈ k₈ => ?_) (by have : (100000 : Nat) ≤ sizeLine := by decide
                                         have : (Str.ofString "(").length = 1 := by decide
                                         rw [Str.length_append, Str.length_append]
                                         (first | lia | omega))
    ktn_no "y"
    rename_i h₉ F₉
    have hq1 : queueGo (rs.map (·.1)) (ms.map (·.1)) i text = text ++ (Txt.mul (Str.ofString ")") ↑(List.count (↑i) (List.map (fun x => x.1) rs)) ++ Str.ofString "(" ++ ms[i].1) := by
      unfold queueGo; rw [hg]
    refine queue_go R hrs hms hml hr hm k (i + 1) _ _ o₁ _ t₈ (by ktn_no "om") ho₁ ?_ ?_ F₉ (by ktn_no "k_val") (by ktn_no "k_val") (by ktn_no "k_val") hq
    · rw [List.range_succ, List.foldl_append, ← hx]
      exact hq1.symm
    · have : (Str.ofString "(").length = 1 := by decide
      rw [Str.length_append, Str.length_append, Str.length_append]
      have hml1 : (Txt.mul (Str.ofString ")") ((rs.map (·.1)).count (i : Int))).length ≤ 6 := hml1
      (first | lia | omega)
end
section
variable {w : World} {B : Heap} {L : Addr} {m : PySem.Str → Option Value} {cl : List (PySem.Str × Addr)} {cm : PySem.Str → Option Value} {rest : List (Addr × Obj)} {s₀ s : Shared} {A : Around} {E : Value → Shared → Prop} {n : Nat} {Q : Value → Shared → Prop} {ra ma : Addr} {rs : List (Int × Tok)} {ms : List (PySem.Str × Tok)} {k1 k2 : Nat}
theorem queue_spec (R : Room (n + 6) A) (F : Fm w B L cl s₀ m cm rest s) (hrs : rs.length ≤ 6) (hms : ms.length = 6) (hml : ∀ y ∈ ms, y.1.length ≤ 10) (hr : (ra, lsO (inV rs) k1) ∈ rest) (hm : (ma, lsO (strValues ms) k2) ∈ rest)
    (h : ∀ t s', Fm w B L cl s₀ m cm rest s' → Q (.str (queueF (rs.map (·.1)) (ms.map (·.1))) t) s') :
    wpAny (M w) A (call (.ref a_law_queue) [.ref ra, .ref ma] []) Q E s := by
  refine call_fn (binds := [("reach", .ref ra), ("marks", .ref ma)]) (fd := fd_law_queue) (cmF := fun _ => none) R F (lk_law_queue _) (cd_law_queue _) rfl (BindsTo.of_eq rfl) (by decide) (by kernel_rfl) (fun _ _ e => (by cases e)) (fun _ _ _ e => (by cases e)) ?_ rfl rfl rfl
  intro Qo hQo L' s₁ hL F₁ R₁
  obtain ⟨h₁, g₁, d₁, k₁, o₁⟩ := s₁
  ktn_no "ast"
  ktn_no "y"
  rename_i h₃ F₃
  refine wFor ?_ (fun x => rfl)
  clear F₁
  ktn_no "y"
  refine range1 F₃ fun r h₄ t' u' v' k₄ F₄ => ?_
  refine iter_range F₄ (by decide) fun I o h₅ ho F₅ => ?_
  clear F₃ F₄
  refine queue_go (n := n) (cm := fun _ => none) (rest := rest) R₁ hrs hms hml hr hm 6 0 _ e0 _ _ _ rfl ho rfl (Nat.zero_le _) F₅ (by ktn_no "k_val") (by ktn_no "k_val") (by ktn_no "k_val") fun m' t' s' n1 n2 hle F₆ => ?_
  obtain ⟨h₆, g₆, d₆, k₆, o₆⟩ := s'
  clear F₅
  dsimp only
  have gr : h₆.get? ra = some (lsO (inV rs) k1) := (F₆.nw _ hr).1
  ktn_no "y"
  refine getMethod_list_of PySem.F.slot_list_count PySem.F.type_list_count (isL gr) (noD gr) ?_
  ktn_no "y"
  refine count_list_ints (isL gr) (intsAre rs) ?_
  have hc : (rs.map (·.1)).count (6 : Int) ≤ 6 := Nat.le_trans List.count_le_length (by simpa using hrs)
  refine str_mul (x := cCl) (by decide) (by ktn_no "om") fun t₅ k₅ => ?_
  have hml1 : (Txt.mul cCl ((rs.map (·.1)).count (6 : Int))).length ≤ 6 := Nat.le_trans (mul_length _ _) (by rw [show cCl.length = 1 by decide]; (first | lia | omega))
  refine SB.add (fun t₆ k₆ => ?_) (by have : (100000 : Nat) ≤ sizeLine := by decide
                                      (first | lia | omega))
  exact hQo _ _ <| Back.of (F₆.toks _) fun G => h _ _ G
end
noncomputable def nestF (hs : List Int) (ms : List PySem.Str) : Nat → Int → PySem.Str
  | 0, _ => e0
  | f + 1, p =>
    let inner := Txt.join e0 (((List.range 6).filter (fun o => hs.getD o 0 == p)).map fun o => nestF hs ms f (o : Nat))
    if p < 0 then inner else cOp ++ ms.getD p.toNat default ++ inner ++ cCl
noncomputable def nbnd : Nat → Nat
  | 0 => 0
  | f + 1 => 6 * nbnd f + 12
theorem nbnd_le : ∀ f, f ≤ 7 → nbnd f ≤ 700000 := by decide
theorem nest_len {hs : List Int} {ms : List PySem.Str} (hm : ∀ y ∈ ms, y.length ≤ 10) : ∀ (f : Nat) (p : Int), (nestF hs ms f p).length ≤ nbnd f
  | 0, p => by show e0.length ≤ 0; decide
  | f + 1, p => by
    unfold nestF nbnd
    have h1 : ∀ l : List Nat, l.length ≤ 6 → (Txt.join e0 (l.map fun o => nestF hs ms f (o : Nat))).length ≤ 6 * nbnd f := fun l hl => by
      rw [show Txt.join e0 (l.map fun o => nestF hs ms f (o : Nat)) = Str.join e0 (l.map fun o => nestF hs ms f (o : Nat)) from StrLaws.glued_eq_join _ _]
      refine Nat.le_trans (join_length e0 _) ?_
      have := sum_le (N := nbnd f) (l.map fun o => nestF hs ms f (o : Nat)) fun y hy => by
        (refine x1_2 (List.mem_map.mp hy) ?_; intro o _ eqX2; subst eqX2)
        exact nest_len hm f o
      rw [List.length_map] at this
      have h2 := Nat.mul_le_mul_right (nbnd f) hl
      rw [show e0.length = 0 by decide]
      (first | lia | omega)
    have h2 := h1 ((List.range 6).filter (fun o => hs.getD o 0 == p)) (Nat.le_trans (List.length_filter_le _ _) (by simp))
    dsimp only
    split
    · (first | lia | omega)
    · rw [Str.length_append, Str.length_append, Str.length_append]
      have e1 : cOp.length = 1 := by decide
      have e2 : cCl.length = 1 := by decide
      have e3 : (ms.getD p.toNat default).length ≤ 10 := by
        rw [List.getD_eq_getElem?_getD]
        cases hq : ms[p.toNat]? with
        | none => exact Nat.zero_le _
        | some y => exact hm y (List.mem_of_getElem? hq)
      (first | lia | omega)
section
variable {w : World} {n : Nat} {ha ma : Addr} {hs : List (Int × Tok)} {ms : List (PySem.Str × Tok)} {k1 k2 : Nat}
theorem nest_spec : ∀ (f : Nat) {A : Around} {B : Heap} {L : Addr} {m : PySem.Str → Option Value} {cl : List (PySem.Str × Addr)} {cm : PySem.Str → Option Value} {rest : List (Addr × Obj)} {s₀ s : Shared} {E : Value → Shared → Prop} {Q : Value → Shared → Prop} {p : Int} {tp : Tok},
    Room (n + f) A → Fm w B L cl s₀ m cm rest s → 5 - p < f → -1 ≤ p → p ≤ 5 → f ≤ 7 → (ha, lsO (inV hs) k1) ∈ rest → (ma, lsO (strValues ms) k2) ∈ rest → hs.length = 6 → ms.length = 6 → (∀ y ∈ ms, y.1.length ≤ 10) → (∀ o (h : o < hs.length), hs[o].1 < o) →
    (∀ t s', Fm w B L cl s₀ m cm rest s' → Q (.str (nestF (hs.map (·.1)) (ms.map (·.1)) f p) t) s') →
    wpAny (M w) A (call (.ref a_law_nest) [.ref ha, .ref ma, .int p tp] []) Q E s
  | 0, A, B, L, m, cl, cm, rest, s₀, s, E, Q, p, tp, R, F, hf, h1, h2, h7, hr, hm, l1, l2, l3, l4, h => by (first | lia | omega)
  | f + 1, A, B, L, m, cl, cm, rest, s₀, s, E, Q, p, tp, R, F, hf, h1, h2, h7, hr, hm, l1, l2, l3, l4, h => by
    refine call_fn_cells (n := n + f) (fd := fd_law_nest) (binds := [("hooks", .ref ha), ("marks", .ref ma), ("place", .int p tp)]) R F (lk_law_nest _) (cd_law_nest _) rfl (by rfl) rfl (fun z => by kernel_rfl) ?_ rfl rfl rfl
    intro Qo hQo L' s₁ hL' F₁ HC R₁
    obtain ⟨h₁, g₁, d₁, k₁, o₁⟩ := s₁
    revert F₁
    generalize hmL : bindL _ _ _ = mL
    generalize hcL : bindC _ _ _ = cmL
    intro F₁
    have c1 : cmL "hooks" = some (.ref ha) := by rw [← hcL]; kernel_rfl
    have c2 : cmL "marks" = some (.ref ma) := by rw [← hcL]; kernel_rfl
    have c3 : cmL "place" = some (.int p tp) := by rw [← hcL]; kernel_rfl
    clear hcL hmL
    ktn_no "ast"
    ktn_no "z"
    refine GM.join ?_
    ktn_no "z"
    refine list_compC (B := under s rest) (L := L') (m := mL) (cm := cmL) (s₀ := s) (by kernel_rfl) (by rfl) (by kernel_rfl) (by kernel_rfl) (by kernel_rfl) (fun _ => rfl) ?_
    ktn_no "z"
    refine range1 F₁ fun r h₄ t' u' v' k₄ F₄ => ?_
    refine iter_range F₄ (by decide) fun I o h₅ ho F₅ => ?_
    clear F₄
    refine ⟨_, F₅, fun D C s₃ s₄ _ F₆ G => ?_⟩
    have G₁ := G.perm (news' := (I, o) :: (D, lsO [] 0) :: rest) (by ktn_no "perm_tac")
    refine comp_all (steps_range I 0 1 6) (self_range I 0 1 6) rfl rfl R₁.handled (fun i m cm' news => cm' = cmL ∧ ∃ (l : List (PySem.Str × Tok)) (k : Nat), news = (D, lsO (strValues l) k) :: rest ∧ l.length ≤ i ∧ (∀ y ∈ l, y.1.length ≤ 700000) ∧
      l.map (·.1) = ((List.range i).filter (fun o => (hs.map (·.1)).getD o 0 == p)).map fun o => nestF (hs.map (·.1)) (ms.map (·.1)) f (o : Nat)) (fun _ _ _ _ _ _ _ _ => trivial) ho ⟨rfl, [], 0, rfl, Nat.le_refl _, fun _ h => by simp at h, rfl⟩ G₁ ?_ ?_
    · rintro i v m₁ cm₁ news o₁ s₅ K hi ⟨ti, rfl⟩ ⟨rfl, l, k, rfl, hl1, hl2, hl3⟩ G₂ q
      obtain ⟨h₅', g₅, d₅, k₅, o₅⟩ := s₅
      rw [show (0 : Int) + (i : Int) * 1 = (i : Int) by (first | lia | omega)]
      refine wpAny_pure (wpAny_assign_Name ?_)
      refine st_L G₂ (by kernel_rfl) (by kernel_rfl!) (by kernel_rfl) fun h₆ G₃ => ?_
      clear G₁ G₂ G F₆ F₅
      have gh : h₆.get? ha = some (lsO (inV hs) k1) := (G₃.nw _ (.tail _ (.tail _ hr))).1
      have hv : (inV hs)[i]? = some (.int (hs[i]'(by ktn_no "om")).1 (hs[i]'(by ktn_no "om")).2) := by simp [List.getElem?_eq_getElem (show i < hs.length by (first | lia | omega))]
      have n4 : upd m₁ "other" (.int i ti) "other" = some (.int i ti) := rfl
      revert n4 G₃
      generalize upd m₁ "other" (.int i ti) = m₆
      intro G₃ n4
      refine wpAny_tests_one ?_
      ktn_no "z"
      refine list_item gh (by ktn_no "om") hv ?_
      ktn_no "z"
      have hg : (hs.map (·.1)).getD i 0 = (hs[i]'(by ktn_no "om")).1 := by
        rw [List.getD_eq_getElem?_getD, List.getElem?_map, List.getElem?_eq_getElem (show i < hs.length by (first | lia | omega))]; rfl
      have hfil : ∀ b : Bool, ((hs[i]'(by ktn_no "om")).1 == p) = b → (List.range (i + 1)).filter (fun o => (hs.map (·.1)).getD o 0 == p) = (List.range i).filter (fun o => (hs.map (·.1)).getD o 0 == p) ++ (if b = true then [i] else []) := fun b hb => by
        rw [List.range_succ, List.filter_append]
        congr 1
        simp only [List.filter_cons, List.filter_nil, hg, hb]
      cases hb : (hs[i]'(by ktn_no "om")).1 == p with
      | false =>
        rw [if_neg Bool.false_ne_true]
        refine q _ _ _ _ ⟨rfl, l, k, rfl, by (first | lia | omega), hl2, ?_⟩ (G₃.toks _)
        rw [hfil _ hb, if_neg Bool.false_ne_true, List.append_nil]
        exact hl3
      | true =>
        rw [if_pos rfl]
        ktn_no "z"
        have hpi : p < (i : Int) := by
          have := l4 i (by ktn_no "om")
          rw [beq_iff_eq] at hb
          (first | lia | omega)
        refine nest_spec f (rest := (I, o₁) :: (D, lsO (strValues l) k) :: rest) R₁ (G₃.toks _) (by ktn_no "om") (by ktn_no "om") (by ktn_no "om") (by ktn_no "om") (by simp [hr]) (by simp [hm]) l1 l2 l3 l4 fun t₈ s' G₄ => ?_
        obtain ⟨h₈, g₈, d₈, k₈, o₈⟩ := s'
        refine app_at 1 G₄ rfl (by simp [strValues]; (first | lia | omega)) fun h₉ G₅ => ?_
        dsimp only [List.set] at G₅
        refine q _ _ ((D, lsO (strValues (l ++ [(nestF (hs.map (·.1)) (ms.map (·.1)) f i, t₈)])) (k + 1)) :: rest) _ ⟨rfl, _, _, rfl, by simp; (first | lia | omega), fun y hy => ?_, ?_⟩ (by simpa [strValues] using G₅)
        · rcases List.mem_append.mp hy with hy | hy
          · exact hl2 y hy
          · simp at hy
            rw [hy]
            exact Nat.le_trans (nest_len (fun y hy => by obtain ⟨z, hz, rfl⟩ := List.mem_map.mp hy; exact l3 z hz) f _) (nbnd_le f (by ktn_no "om"))
        · rw [hfil _ hb, if_pos rfl, List.map_append, List.map_append, hl3]
          rfl
    · rintro m₁ cm₁ news s₅ ⟨rfl, l, k, rfl, hl1, hl2, hl3⟩ G₂
      refine ⟨_, _, _, _, G₂, fun s'' F₇ => ?_⟩
      obtain ⟨h₇, g₇, d₇, k₇, o₇⟩ := s''
      ktn_no "z"
      have hj : JoinOk (Str.ofString "") (l.map (·.1)) = true := by
        unfold JoinOk
        rw [StrLaws.joinFits (B := 700000) (fun y hy => by obtain ⟨z, hz, rfl⟩ := List.mem_map.mp hy; exact hl2 z hz) (by
          rw [List.length_map, show (Str.ofString "").length = 0 by decide]; (first | lia | omega))]
        rfl
      have hjl : (Txt.join (Str.ofString "") (l.map (·.1))).length ≤ 4200000 := by
        rw [show Txt.join (Str.ofString "") (l.map (·.1)) = Str.join (Str.ofString "") (l.map (·.1)) from StrLaws.glued_eq_join _ _]
        refine Nat.le_trans (join_length _ _) ?_
        have := sum_le (N := 700000) (l.map (·.1)) fun y hy => by obtain ⟨z, hz, rfl⟩ := List.mem_map.mp hy; exact hl2 z hz
        rw [List.length_map] at this ⊢
        rw [show (Str.ofString "").length = 0 by decide]; (first | lia | omega)
      refine join_tup (F₇.at 0 rfl) (.inl rfl) rfl hj fun t₉ k₉ => ?_
      have hn : nestF (hs.map (·.1)) (ms.map (·.1)) (f + 1) p = if p < 0 then Txt.join e0 (l.map (·.1)) else cOp ++ (ms.map (·.1)).getD p.toNat default ++ Txt.join e0 (l.map (·.1)) ++ cCl := by
        rw [hl3]; rfl
      have F₈ := F₇.drop 1
      clear F₇ G₂ F₁ F₅ F₆ G G₁
      ktn_no "z"
      rename_i h₉ F₉
      refine wpAny_IfExp ?_
      ktn_no "z"
      by_cases hp : p < 0
      · rw [if_pos (by simpa using hp)]
        dsimp only
        ktn_no "z"
        refine hQo _ _ <| Back.of (F₉.toks _) fun G => ?_
        have := h t₉ _ G
        rw [hn, if_pos hp] at this
        exact this
      · rw [if_neg (by simpa using hp)]
        rw [if_neg hp] at hn
        dsimp only
        obtain ⟨pn, rfl⟩ : ∃ pn : Nat, p = pn := ⟨p.toNat, by (first | lia | omega)⟩
        have gm : h₉.get? ma = some (lsO (strValues ms) k2) := (F₉.nw _ hm).1
        have hmi : (strValues ms)[pn]? = some (.str (ms[pn]'(by ktn_no "om")).1 (ms[pn]'(by ktn_no "om")).2) := by simp [strValues, List.getElem?_eq_getElem (show pn < ms.length by (first | lia | omega))]
        have hml2 := l3 _ (List.getElem_mem (show pn < ms.length by (first | lia | omega)))
        have hz : (5000000 : Nat) ≤ sizeLine := by decide
        have e1 : (Str.ofString "(").length = 1 := by decide
        have e2 : (Str.ofString ")").length = 1 := by decide
        ktn_no "z"
        refine list_item gm (by ktn_no "om") hmi ?_
        refine SB.add (fun t₁₀ k₁₀ => ?_) (by ktn_no "om")
        ktn_no "z"
        refine SB.add (fun t₁₁ k₁₁ => ?_) (by rw [Str.length_append]; (first | lia | omega))
        ktn_no "z"
        refine SB.add (fun t₁₂ k₁₂ => ?_) (by rw [Str.length_append, Str.length_append]; (first | lia | omega))
        refine hQo _ _ <| Back.of (F₉.toks _) fun G => ?_
        have := h t₁₂ _ G
        rw [hn, Int.toNat_natCast, show (ms.map (·.1)).getD pn default = (ms[pn]'(by ktn_no "om")).1 by
          rw [List.getD_eq_getElem?_getD, List.getElem?_map, List.getElem?_eq_getElem (show pn < ms.length by (first | lia | omega))]; rfl] at this
        exact this
end
noncomputable abbrev dotS : PySem.Str := Str.ofString "."
noncomputable abbrev crS : PySem.Str := Str.ofString "\r"
noncomputable def topOf (st : List (PySem.Str × PySem.Str)) : PySem.Str × PySem.Str := st.getLastD ("", "")
noncomputable def quoteF (x : PySem.Str) : PySem.Str := quote2 (quote1 x)
noncomputable def closeS (st : List (PySem.Str × PySem.Str)) : PySem.Str :=
  (topOf st.dropLast).2 ++ dotS ++ (topOf st).1 ++ (if (topOf st).1 == cOp then crS else nlS) ++ quoteF (topOf st).2
noncomputable def mailStep (st : List (PySem.Str × PySem.Str)) (u : PySem.Str) : List (PySem.Str × PySem.Str) :=
  if u == cOp then st ++ [(e0, e0)]
  else if u == cCl then st.dropLast.dropLast ++ [((topOf st.dropLast).1, closeS st)]
  else st.dropLast ++ [(Txt.slice u (some 1) none, e0)]
noncomputable def stepOk (st : List (PySem.Str × PySem.Str)) (u : PySem.Str) : Prop :=
  st.length ≤ 800 ∧ u.length ≤ 100 ∧ (u == cCl → (topOf st.dropLast).2.length ≤ 100000 ∧ (topOf st).1.length ≤ 100000 ∧ QOk (topOf st).2 ∧ (quoteF (topOf st).2).length ≤ 100000)
noncomputable def MailOk : List (Nat × PySem.Str) → List (PySem.Str × PySem.Str) → Prop
  | [], _ => True
  | u :: us, st => stepOk st u.2 ∧ MailOk us (mailStep st u.2)
noncomputable abbrev lmFor : Stmt := body_law_mail.getD 1 default
noncomputable abbrev lmT : Expr := (forParts lmFor).1
noncomputable abbrev lmB : List Stmt := (forParts lmFor).2.2.1
section
variable {w : World} {B : Heap} {L I : Addr} {m : PySem.Str → Option Value} {cm : PySem.Str → Option Value} {own rest : List (Addr × Obj)} {s₀ s : Shared} {A : Around} {E : Value → Shared → Prop} {n : Nat} {Q : Flow → Shared → Prop} {x : Addr} {g : Nat}
theorem mail_loop (R : Room (n + 20) A) :
    ∀ (us : List (Nat × PySem.Str)) (st : List (PySem.Str × PySem.Str)) (m : PySem.Str → Option Value) (own oa : List (Addr × Obj)) (gs : GenState) (s : Shared),
      GenSt w A us I g own gs → s.gens[g]? = some gs → s₀.gens.size ≤ g → AccP x st 0 oa → MailOk us st → Fm w B L [] s₀ m cm (own ++ (oa ++ rest)) s → m "shelf" = some (.ref x) →
      (∀ m' oa' s', Fm w B L [] s₀ m' cm (oa' ++ rest) s' → AccP x (us.foldl (fun st u => mailStep st u.2) st) 0 oa' → m' "shelf" = some (.ref x) → Q .next s') →
      LoopC w A lmT (.ref I) lmB [] (callEnv fd_law_mail L a_law_mail) Q s
  | [], st, m, own, oa, gs, s, hst, hg, hs, P, hok, F, hm, hq => by
    refine loop_step ?_
    refine gen_next (n := n) (R.less (by ktn_no "le")) F hst hg hs fun s' F' => ?_
    dsimp only
    exact wpAny_execs_nil (hq _ _ _ F' P hm)
  | (a, b) :: us, st, m, own, oa, gs, s, hst, hg, hs, P, hok, F, hm, hq => by
    refine loop_step ?_
    refine gen_next (n := n) (R.less (by ktn_no "le")) F hst hg hs fun T u1 u2 own' gs' s' hst' F' hg' => ?_
    dsimp only
    refine gen_go hst' F' ?_
    obtain ⟨h₂, g₂, d₂, k₂, o₂⟩ := s'
    refine assign_pair F' R.handled (F'.at 0 rfl) rfl (by kernel_rfl) (by kernel_rfl) (by kernel_rfl) fun h₃ k₃ F₃ => ?_
    have F₄ := F₃.drop 1
    simp only [List.cons_append, List.drop] at F₄
    clear F F' F₃
    obtain ⟨⟨ok1, ok2, ok3⟩, hok'⟩ := hok
    simp only [List.foldl_cons] at hq
    have n1 : upd (upd m "place" (.int a u1)) "unit" (.str b u2) "shelf" = some (.ref x) := hm
    have n2 : upd (upd m "place" (.int a u1)) "unit" (.str b u2) "unit" = some (.str b u2) := rfl
    revert n1 n2 F₄
    generalize upd (upd m "place" (.int a u1)) "unit" (.str b u2) = m₄
    intro F₄ n1 n2
    have G₁ := F₄.perm (news' := oa ++ (own' ++ rest)) (by ktn_no "perm_tac")
    clear F₄
    have r₁ := G₁.rl
    replace G₁ := G₁.rebase
    ktn_no "ast"
    ktn_no "y"
    cases h1 : b == cOp with
    | true =>
      have e : mailStep st b = st ++ [(e0, e0)] := by simp only [mailStep, h1]; rfl
      dsimp only at hq hok'
      rw [e] at hq hok'
      rw [if_pos rfl]
      ktn_no "y"
      refine accP_method G₁ P (by ktn_no "k_ev") (by ktn_no "k_ev") (by decide +kernel) (by decide +kernel) ?_
      ktn_no "y"
      refine push_spec (n := n) (R.less (by ktn_no "le")) (G₁.toks _) P (by ktn_no "om") fun oa' s' P' G₂ => ?_
      obtain ⟨h₅, g₅, d₅, k₅, o₅⟩ := s'
      clear G₁
      ktn_no "y"
      have hg₂ := G₂.rl.gens _ _ hg'
      exact mail_loop R us _ m₄ own' oa' gs' _ hst' hg₂ hs P' hok' ((G₂.unbase r₁).perm (by ktn_no "perm_tac")) n1 hq
    | false =>
      rw [if_neg Bool.false_ne_true]
      ktn_no "y"
      cases h2 : b == cCl with
      | true =>
        have e : mailStep st b = st.dropLast.dropLast ++ [((topOf st.dropLast).1, closeS st)] := by simp only [mailStep, h1, h2]; rfl
        dsimp only at hq hok' h2 ok3
        rw [e] at hq hok'
        (refine x0_4 (ok3 h2) ?_; intro ok4 ok5 ok6 ok7)
        rw [if_pos rfl]
        ktn_no "y"
        refine Assign_Tuple ?_ rfl rfl
        ktn_no "y"
        refine accP_method G₁ P (by ktn_no "k_ev") (by ktn_no "k_ev") (by decide +kernel) (by decide +kernel) ?_
        ktn_no "y"
        refine pop_spec (n := n) (R.less (by ktn_no "le")) (G₁.toks _) P (by ktn_no "om") fun oa₂ q₂ tq1 tq2 s' P₂ G₂ => ?_
        obtain ⟨h₅, g₅, d₅, k₅, o₅⟩ := s'
        clear G₁
        refine assign_pair G₂ R.handled (G₂.at 0 rfl) rfl (by kernel_rfl) (by kernel_rfl) (by kernel_rfl) fun h₆ k₆ G₃ => ?_
        clear G₂
        have G₄ := G₃.drop 1
        simp only [List.cons_append, List.drop] at G₄
        clear G₃
        have p1 : upd (upd m₄ "name" (.str (topOf st).1 tq1)) "inner" (.str (topOf st).2 tq2) "shelf" = some (.ref x) := n1
        have p2 : upd (upd m₄ "name" (.str (topOf st).1 tq1)) "inner" (.str (topOf st).2 tq2) "name" = some (.str (topOf st).1 tq1) := rfl
        have p3 : upd (upd m₄ "name" (.str (topOf st).1 tq1)) "inner" (.str (topOf st).2 tq2) "inner" = some (.str (topOf st).2 tq2) := rfl
        replace G₄ : Fm w B L [] _ (upd (upd m₄ "name" (.str (topOf st).1 tq1)) "inner" (.str (topOf st).2 tq2)) cm _ _ := G₄
        revert p1 p2 p3 G₄
        generalize upd (upd m₄ "name" (.str (topOf st).1 tq1)) "inner" (.str (topOf st).2 tq2) = m₆
        intro p1 p2 p3 G₄
        ktn_no "y"
        refine Assign_Tuple ?_ rfl rfl
        ktn_no "y"
        refine accP_method G₄ P₂ (by ktn_no "k_ev") (by ktn_no "k_ev") (by decide +kernel) (by decide +kernel) ?_
        ktn_no "y"
        refine pop_spec (n := n) (R.less (by ktn_no "le")) (G₄.toks _) P₂ (by simp; (first | lia | omega)) fun oa₃ q₃ tq3 tq4 s' P₃ G₅ => ?_
        obtain ⟨h₇, g₇, d₇, k₇, o₇⟩ := s'
        clear G₄
        refine assign_pair G₅ R.handled (G₅.at 0 rfl) rfl (by kernel_rfl) (by kernel_rfl) (by kernel_rfl) fun h₈ k₈ G₆ => ?_
        clear G₅
        have G₇ := G₆.drop 1
        simp only [List.cons_append, List.drop] at G₇
        clear G₆
        have r1 : upd (upd m₆ "outer" (.str (topOf st.dropLast).1 tq3)) "ahead" (.str (topOf st.dropLast).2 tq4) "shelf" = some (.ref x) := p1
        have r2 : upd (upd m₆ "outer" (.str (topOf st.dropLast).1 tq3)) "ahead" (.str (topOf st.dropLast).2 tq4) "name" = some (.str (topOf st).1 tq1) := p2
        have r3 : upd (upd m₆ "outer" (.str (topOf st.dropLast).1 tq3)) "ahead" (.str (topOf st.dropLast).2 tq4) "inner" = some (.str (topOf st).2 tq2) := p3
        have r4 : upd (upd m₆ "outer" (.str (topOf st.dropLast).1 tq3)) "ahead" (.str (topOf st.dropLast).2 tq4) "outer" = some (.str (topOf st.dropLast).1 tq3) := rfl
        have r5 : upd (upd m₆ "outer" (.str (topOf st.dropLast).1 tq3)) "ahead" (.str (topOf st.dropLast).2 tq4) "ahead" = some (.str (topOf st.dropLast).2 tq4) := rfl
        replace G₇ : Fm w B L [] _ (upd (upd m₆ "outer" (.str (topOf st.dropLast).1 tq3)) "ahead" (.str (topOf st.dropLast).2 tq4)) cm _ _ := G₇
        revert r1 r2 r3 r4 r5 G₇
        generalize upd (upd m₆ "outer" (.str (topOf st.dropLast).1 tq3)) "ahead" (.str (topOf st.dropLast).2 tq4) = m₈
        intro r1 r2 r3 r4 r5 G₇
        have hz : (1000000 : Nat) ≤ sizeLine := by decide
        have d1 : (Str.ofString ".").length = 1 := by decide
        have d2 : (Str.ofString "\r").length = 1 := by decide
        have d3 : (Str.ofString "\n").length = 1 := by decide
        ktn_no "y"
        refine accP_method G₇ P₃ (by ktn_no "k_ev") (by ktn_no "k_ev") (by decide +kernel) (by decide +kernel) ?_
        ktn_no "y"
        refine SB.add (fun t₉ k₉ => ?_) (by ktn_no "om")
        ktn_no "y"
        refine SB.add (fun t₁₀ k₁₀ => ?_) (by rw [Str.length_append]; (first | lia | omega))
        refine wpAny_IfExp ?_
        ktn_no "y"
        cases h3 : (topOf st).1 == cOp with
        | true =>
          rw [if_pos rfl]
          ktn_no "y"
          refine SB.add (fun t₁₁ k₁₁ => ?_) (by rw [Str.length_append, Str.length_append]; (first | lia | omega))
          ktn_no "y"
          refine quotedata_spec (n := n) (R.less (by ktn_no "le")) (G₇.toks _) ok6 fun t₁₂ s' G₈ => ?_
          obtain ⟨h₁₂, g₁₂, d₁₂, k₁₂, o₁₂⟩ := s'
          clear G₇
          have ok7' : (quote2 (quote1 (topOf st).2)).length ≤ 100000 := ok7
          refine SB.add (fun t₁₃ k₁₃ => ?_) (by rw [Str.length_append, Str.length_append, Str.length_append]; (first | lia | omega))
          have hcl : closeS st = (topOf st.dropLast).2 ++ Str.ofString "." ++ (topOf st).1 ++ Str.ofString "\r" ++ quote2 (quote1 (topOf st).2) := by
            unfold closeS quoteF
            rw [h3]
            rfl
          rw [← hcl]
          ktn_no "y"
          refine push_spec (n := n) (R.less (by ktn_no "le")) (G₈.toks _) P₃ (by simp; (first | lia | omega)) fun oa₄ s' P₄ G₉ => ?_
          obtain ⟨h₁₄, g₁₄, d₁₄, k₁₄, o₁₄⟩ := s'
          clear G₈
          ktn_no "y"
          have hg₂ := G₉.rl.gens _ _ hg'
          exact mail_loop R us _ m₈ own' oa₄ gs' _ hst' hg₂ hs P₄ hok' ((G₉.unbase r₁).perm (by ktn_no "perm_tac")) r1 hq
        | false =>
          rw [if_neg Bool.false_ne_true]
          ktn_no "y"
          refine SB.add (fun t₁₁ k₁₁ => ?_) (by rw [Str.length_append, Str.length_append]; (first | lia | omega))
          ktn_no "y"
          refine quotedata_spec (n := n) (R.less (by ktn_no "le")) (G₇.toks _) ok6 fun t₁₂ s' G₈ => ?_
          obtain ⟨h₁₂, g₁₂, d₁₂, k₁₂, o₁₂⟩ := s'
          clear G₇
          have ok7' : (quote2 (quote1 (topOf st).2)).length ≤ 100000 := ok7
          refine SB.add (fun t₁₃ k₁₃ => ?_) (by rw [Str.length_append, Str.length_append, Str.length_append]; (first | lia | omega))
          have hcl : closeS st = (topOf st.dropLast).2 ++ Str.ofString "." ++ (topOf st).1 ++ Str.ofString "\n" ++ quote2 (quote1 (topOf st).2) := by
            unfold closeS quoteF
            rw [h3]
            rfl
          rw [← hcl]
          ktn_no "y"
          refine push_spec (n := n) (R.less (by ktn_no "le")) (G₈.toks _) P₃ (by simp; (first | lia | omega)) fun oa₄ s' P₄ G₉ => ?_
          obtain ⟨h₁₄, g₁₄, d₁₄, k₁₄, o₁₄⟩ := s'
          clear G₈
          ktn_no "y"
          have hg₂ := G₉.rl.gens _ _ hg'
          exact mail_loop R us _ m₈ own' oa₄ gs' _ hst' hg₂ hs P₄ hok' ((G₉.unbase r₁).perm (by ktn_no "perm_tac")) r1 hq
      | false =>
        have e : mailStep st b = st.dropLast ++ [(Txt.slice b (some 1) none, e0)] := by simp only [mailStep, h1, h2]; rfl
        dsimp only at hq hok' h2 ok2
        rw [e] at hq hok'
        rw [if_neg Bool.false_ne_true]
        ktn_no "y"
        refine accP_method G₁ P (by ktn_no "k_ev") (by ktn_no "k_ev") (by decide +kernel) (by decide +kernel) ?_
        ktn_no "y"
        refine pop_spec (n := n) (R.less (by ktn_no "le")) (G₁.toks _) P (by ktn_no "om") fun oa₂ q₂ tq1 tq2 s' P₂ G₂ => ?_
        obtain ⟨h₅, g₅, d₅, k₅, o₅⟩ := s'
        clear G₁
        replace G₂ := G₂.drop 1
        simp only [List.cons_append, List.drop] at G₂
        ktn_no "y"
        refine accP_method G₂ P₂ (by ktn_no "k_ev") (by ktn_no "k_ev") (by decide +kernel) (by decide +kernel) ?_
        ktn_no "x"
        refine wpAny_Subscript_str_slice ?_ (fun _ _ => rfl)
        ktn_no "y"
        refine evalPart_some_step ?_
        ktn_no "y"
        refine evalPart_none_step ?_
        refine ⟨b, u2, some (1, _), none, rfl, rfl, rfl, post_val_or_str ⟨Nat.le_trans (Txt.slice_le b (some 1) none) (Nat.le_trans ok2 (by decide)), fun t' k' => ?_⟩⟩
        dsimp only
        have G₃ := G₂.push1 (g := g₅) (d := d₅) (tk := k') (slO (.int 1 k₅) .none .none)
        replace G₃ := G₃.drop 1
        clear G₂
        dsimp only [List.drop] at G₃
        ktn_no "y"
        refine push_spec (a := Txt.slice b (some 1) none) (b := e0) (n := n) (R.less (by ktn_no "le")) (G₃.toks _) P₂ (by simp; (first | lia | omega)) fun oa₄ s' P₄ G₉ => ?_
        obtain ⟨h₁₄, g₁₄, d₁₄, k₁₄, o₁₄⟩ := s'
        clear G₃
        ktn_no "y"
        have hg₂ := G₉.rl.gens _ _ hg'
        exact mail_loop R us _ m₄ own' oa₄ gs' _ hst' hg₂ hs P₄ hok' ((G₉.unbase r₁).perm (by ktn_no "perm_tac")) n1 hq
end
noncomputable abbrev crlfZ : PySem.Str := Str.ofString "\r\n"
noncomputable def mailEnd (x : PySem.Str) : List (PySem.Str × PySem.Str) := (units x).foldl (fun st u => mailStep st u.2) []
noncomputable def mailTail (x : PySem.Str) : PySem.Str := quoteF (topOf (mailEnd x)).2
noncomputable def mailF (x : PySem.Str) : List (PySem.Str × Int) := ((Txt.split (mailTail x) crlfZ).dropLast).map fun r => (Txt.slice r (some (-1)) none, (r.length : Int) - 3)
structure MailFine (x : PySem.Str) : Prop where
  asc : x.cps.all (· < 128) = true
  ok : MailOk (units x) []
  len : (mailEnd x).length ≤ 800
  q : QOk (topOf (mailEnd x)).2
  sz : (mailTail x).length ≤ 90000
  rows : ∀ r ∈ (Txt.split (mailTail x) crlfZ).dropLast, r.length ≤ 90000
/-- pairs of a text and a number in the heap -/
inductive Deep : List (PySem.Str × Int) → List Value → List (Addr × Obj) → Prop
  | nil : Deep [] [] []
  | snoc {ys vs l a y t u} : Deep ys vs l → Deep (ys ++ [y]) (vs ++ [.ref a]) (l ++ [(a, tupO [.str y.1 t, .int y.2 u])])
theorem Deep.len {xs : List (PySem.Str × Int)} {vs : List Value} {l : List (Addr × Obj)} (h : Deep xs vs l) : vs.length = xs.length := by
  induction h with
  | nil => rfl
  | snoc _ ih => simp [ih]
section
variable {w : World} {B : Heap} {L : Addr} {m : PySem.Str → Option Value} {cl : List (PySem.Str × Addr)} {cm : PySem.Str → Option Value} {rest : List (Addr × Obj)} {s₀ s : Shared} {A : Around} {E : Value → Shared → Prop} {n : Nat} {Q : Value → Shared → Prop} {x : PySem.Str} {tx : Tok}
theorem sub_tail_s {M : Model} {s : Shared} {value slice : Expr} {o i : Value} {T id : String} {Q : Value → Shared → Prop} (hT : s.TypeIs o T)
    (hl : typeLookup (.type T) "__getitem__" = pure (some (.builtin id))) (hgo : ∀ r s' (Q : Unit → Shared → Prop), Q () s' → wpAny M A (letTemporaryGo value o r) Q E s') (q : wpAny M A (getItem o i) Q E s)
    (hs : subscripted slice false o i = operate [i, o] (getItem o i)) :
    wpAny M A (subscriptTail value slice o i) Q E s := by
  unfold subscriptTail
  refine wpAny_bind ?_
  rw [getitemInPython_of_ne hT.not_modules]
  refine wpAny_bind (wpAny_specialOf hT hl ?_)
  have fin : wpAny M A (subscripted slice false o i) (fun r s₃ => wpAny M A (letTemporaryGo value o r >>= fun _ => pure r) Q E s₃) E s := by
    rw [hs]
    exact wpAny_operating (wpAny_mono q (fun r s₃ h₃ => wpAny_bind (hgo _ _ _ (wpAny_pure h₃))) fun _ _ x => x)
  first
    | exact wpAny_pure (wpAny_bind fin)
    | exact wpAny_bind (wpAny_pure (wpAny_bind fin))
    | exact wpAny_bind fin
theorem slice_tail {h : Heap} {g : Array GenState} {d d₀ : Drawn} {tk tk₀ : Nat} {os : OsState} {news : List (Addr × Obj)} {a sl : Addr} {i : Nat} {vs : List Value} {k : Nat} {value slice : Expr} {vl vu : Value} {lo hi : Option Int} {Q : Value → Shared → Prop}
    (F : Fm w B L cl s₀ m cm news ⟨h, g, d₀, tk₀, os⟩) (hi' : news[i]? = some (a, lsO vs k)) (hs : h.get? sl = some (slO vl vu .none)) (p1 : IsPart vl lo) (p2 : IsPart vu hi) (hsz : vs.length ≤ 100000)
    (q : ∀ y h' k, Fm w B L cl s₀ m cm ((y, lsO (slicePick vs.toArray lo hi none).toList k) :: news) ⟨h', g, d, tk, os⟩ → Q (.ref y) ⟨h', g, d, tk, os⟩)
    (hss : subscripted slice false (.ref a) (.ref sl) = operate [.ref sl, .ref a] (getItem (.ref a) (.ref sl)) := by with_unfolding_all rfl) :
    wpAny (M w) A (subscriptTail value slice (.ref a) (.ref sl)) Q E ⟨h, g, d, tk, os⟩ := by
  have hl := isL (F.at i hi')
  refine sub_tail_s hl.typeIs slot_list_getitem.lookup (fun _ _ _ h => wpAny_letTemporaryGo h) (wpAny_getItem_list_slice hl ⟨_, hs, rfl, rfl⟩ p1 p2 .none (by simp) ?_ (Nat.le_trans (by simpa using hsz) (show (100000 : Nat) ≤ sizeLine by decide))) hss
  have F₂ := F.push1 (g := g) (d := d) (tk := tk) ⟨.type "list", none, .seq (slicePick vs.toArray lo hi none), #[]⟩
  exact q _ _ _ F₂
theorem mail_spec (R : Room (n + 40) A) (F : Fm w B L cl s₀ m cm rest s) (hx : MailFine x)
    (h : ∀ D vs l k s', Deep (mailF x) vs l → Fm w B L cl s₀ m cm ((D, lsO vs k) :: (l ++ rest)) s' → Q (.ref D) s') :
    wpAny (M w) A (call (.ref a_law_mail) [.str x tx] []) Q E s := by
  refine call_fn (binds := [("text", .str x tx)]) (fd := fd_law_mail) (cmF := fun _ => none) R F (lk_law_mail _) (cd_law_mail _) rfl (BindsTo.of_eq rfl) (by decide) (by kernel_rfl) (fun _ _ e => (by cases e)) (fun _ _ _ e => (by cases e)) ?_ rfl rfl rfl
  intro Qo hQo L' s₁ hL F₁ R₁
  obtain ⟨h₁, g₁, d₁, k₁, o₁⟩ := s₁
  ktn_no "ast"
  ktn_no "y"
  refine make0 (n := n + 20) (R₁.less (by ktn_no "le")) (F₁.toks _) fun sh oa s' P F₂ => ?_
  obtain ⟨h₂, g₂, d₂, k₂, o₂⟩ := s'
  clear F₁
  ktn_no "y"
  rename_i h₃ F₃
  refine wFor ?_ (fun x => rfl)
  ktn_no "y"
  refine gen_call (n := n + 30) (A.deeper (callEnv fd_law_mail L' a_law_mail)) (R₁.less (by ktn_no "le")) (F₃.toks _) hx.asc fun I own gs s' hst F₆ hg => ?_
  obtain ⟨h₆, g₆, d₆, k₆, o₆⟩ := s'
  refine gen_iter hst F₆ ?_
  refine mail_loop (n := n + 15) (R₁.less (by ktn_no "le")) (units x) [] _ own oa _ _ hst hg F₃.rl.gsize P hx.ok (F₆.perm (by ktn_no "perm_tac")) (by ktn_no "k_val") fun m' oa' s' F₇ P₇ hm => ?_
  obtain ⟨h₇, g₇, d₇, k₇, o₇⟩ := s'
  clear F₃ F₆ F₂ P
  dsimp only
  ktn_no "y"
  refine list_comp (B := under s rest) (L := L') (m := m') (cl := []) (cm := fun _ => none) (s₀ := s) (cl' := []) (by kernel_rfl) (by kernel_rfl) (by kernel_rfl) (by kernel_rfl) (fun _ => rfl) (fun _ _ e => e) ?_
  ktn_no "y"
  refine accP_method F₇ P₇ (by ktn_no "k_ev") (by ktn_no "k_ev") (by decide +kernel) (by decide +kernel) ?_
  ktn_no "y"
  refine pop_spec (n := n) (R₁.less (by ktn_no "le")) (F₇.toks _) P₇ (by have := hx.len; exact Nat.le_trans this (by decide)) fun oa₂ q₂ tq1 tq2 s' P₈ F₈ => ?_
  obtain ⟨h₈, g₈, d₈, k₈, o₈⟩ := s'
  clear F₇
  ktn_no "y"
  refine tup_item (tupO_is (F₈.at 0 rfl)) (by decide) (by decide) (j := 1) (by rfl) rfl ?_
  ktn_no "y"
  refine quotedata_spec (n := n) (R₁.less (by ktn_no "le")) (F₈.toks _) hx.q fun t₉ s' F₉ => ?_
  obtain ⟨h₉, g₉, d₉, k₉, o₉⟩ := s'
  clear F₈
  ktn_no "y"
  refine GM.split ?_
  ktn_no "y"
  refine str_split (by decide) (Nat.le_trans hx.sz (by decide)) fun lp k₁₀ hlp => ?_
  have F₁₀ := F₉.push1 (g := g₉) (d := d₉) (tk := k₁₀) (lsO (strValues lp) 0)
  clear F₉
  ktn_no "y"
  refine wpAny_Slice ?_
  refine evalPart_none_step ?_
  refine evalPart_some_step ?_
  ktn_no "y"
  refine evalPart_none_step ?_
  have F₁₁ := fun t => F₁₀.push1 (g := g₉) (d := d₉) (tk := k₁₀) (slO .none (.int (-1) t) .none)
  have hlp2 := congrArg List.length hlp
  have hpl := parts_le (mailTail x) crlfZ
  have hsz := hx.sz
  simp only [List.length_map] at hlp2
  have hlp : lp.map (·.1) = Txt.split (mailTail x) crlfZ := hlp
  have hlp2 : lp.length = (Txt.split (mailTail x) crlfZ).length := hlp2
  refine slice_tail (F₁₁ _) (i := 1) rfl ((F₁₁ _).at 0 rfl) .none (.int _ _) (by simp [strValues]; (first | lia | omega)) fun y₁ h₁₁ ky F₁₂ => ?_
  have e1 : (slicePick (strValues lp).toArray none (some (-1)) none).toList = strValues lp.dropLast := by
    have := slicePick_butLast (strValues lp).toArray 1 (Nat.le_refl _)
    rw [show (-((1 : Nat) : Int)) = -1 from rfl] at this
    rw [this]
    show List.take _ _ = _
    rw [strValues, strValues, List.map_dropLast, List.dropLast_eq_take]
    simp
  rw [e1] at F₁₂
  refine iter_list F₁₂ (i := 0) rfl fun I₃ h₁₃ F₁₃ => ?_
  clear F₁₀ F₁₁ F₁₂
  replace F₁₃ := F₁₃.sub (news' := (I₃, itO y₁ 0) :: (y₁, lsO (strValues lp.dropLast) ky) :: rest) ((((((List.sublist_append_right oa₂ rest).cons _).cons _).cons _).cons₂ _).cons₂ _)
  refine ⟨_, F₁₃, fun D C s₃ s₄ _ F₁₄ G => ?_⟩
  have G₁ := G.perm (news' := (I₃, itO y₁ 0) :: (D, lsO [] 0) :: ([] ++ (y₁, lsO (strValues lp.dropLast) ky) :: rest)) (by ktn_no "perm_tac")
  have hrow : ∀ r ∈ lp.dropLast, r.1.length ≤ 90000 := fun r hr => by
    refine hx.rows r.1 ?_
    rw [← hlp, ← List.map_dropLast]
    exact List.mem_map_of_mem hr
  have hsl : (strValues lp.dropLast).length = lp.dropLast.length := by simp [strValues]
  refine comp_all (steps_seq I₃ y₁ (strValues lp.dropLast)) (self_seq I₃ y₁) rfl rfl R₁.handled (fun i m cm' news => cm' = (fun _ => none) ∧ ∃ (vs : List Value) (l : List (Addr × Obj)) (k : Nat), news = (D, lsO vs k) :: (l ++ (y₁, lsO (strValues lp.dropLast) ky) :: rest) ∧
      Deep ((lp.dropLast.take i).map fun r => (Txt.slice r.1 (some (-1)) none, (r.1.length : Int) - 3)) vs l) ?_ rfl ⟨rfl, [], [], 0, rfl, .nil⟩ G₁ ?_ ?_
  · rintro i m cm' news s o ⟨rfl, vs, l, k, rfl, _⟩ F
    obtain ⟨h, g, d, tk, os⟩ := s
    exact ⟨_, _, (F.nw (y₁, lsO (strValues lp.dropLast) ky) (by simp)).1, rfl⟩
  · rintro i v m₁ cm₁ news o s₅ K hi hv ⟨rfl, vs, l, k, rfl, hD⟩ G₂ q
    obtain ⟨h₅', g₅, d₅, k₅, o₅⟩ := s₅
    have hlt : i < lp.dropLast.length := by rw [← hsl]; exact hi
    have hv' : v = .str lp.dropLast[i].1 lp.dropLast[i].2 := by
      simp only [strValues, List.getElem?_map, List.getElem?_eq_getElem hlt] at hv
      exact (Option.some.inj hv).symm
    have hr := hrow _ (List.getElem_mem hlt)
    have hti : lp.dropLast.take (i + 1) = lp.dropLast.take i ++ [lp.dropLast[i]] := List.take_succ_eq_append_getElem hlt
    subst hv'
    revert hr hti
    generalize lp.dropLast[i] = row
    intro hr hti
    refine wpAny_pure (wpAny_assign_Name ?_)
    refine st_L G₂ (by kernel_rfl) (by kernel_rfl!) (by kernel_rfl) fun h₆ G₃ => ?_
    clear G₁ G₂ G F₁₄ F₁₃
    refine wpAny_tests_nil ?_
    rw [if_pos rfl]
    ktn_no "x"
    refine wpAny_Subscript_str_slice ?_ (fun _ _ => rfl)
    ktn_no "y"
    refine evalPart_some_step ?_
    ktn_no "y"
    refine evalPart_none_step ?_
    refine ⟨row.1, row.2, some (-1, _), none, rfl, rfl, rfl, post_val_or_str ⟨Nat.le_trans (Txt.slice_le row.1 (some (-1)) none) (Nat.le_trans hr (by decide)), fun t' k' => ?_⟩⟩
    dsimp only
    have G₄ := G₃.push1 (g := g₅) (d := d₅) (tk := k') (slO (.int (-1) (k₅ + 1 + 1)) .none .none)
    replace G₄ := G₄.drop 1
    clear G₃
    dsimp only [List.drop] at G₄
    ktn_no "y"
    refine SBL.len (by ktn_no "om") ?_
    ktn_no "y"
    refine st_newTuple (by simp) ?_
    have G₅ := G₄.push1 (g := g₅) (d := d₅) (tk := k' + 1 + 1 + 1 + 1) (tupO [.str (Txt.slice row.1 (some (-1)) none) t', .int ((row.1.length : Int) - 3) (k' + 1 + 1 + 1)])
    have hvl : vs.length ≤ 100000 := by rw [hD.len]; simp; (first | lia | omega)
    refine app_at 2 G₅ rfl hvl fun h₇ G₆ => ?_
    dsimp only [List.set] at G₆
    refine q _ _ ((D, lsO (vs ++ [.ref (h₆.push (slO (.int (-1) (k₅ + 1 + 1)) .none .none)).objs.size]) (k + 1)) :: ((l ++ [((h₆.push (slO (.int (-1) (k₅ + 1 + 1)) .none .none)).objs.size, tupO [.str (Txt.slice row.1 (some (-1)) none) t', .int ((row.1.length : Int) - 3) (k' + 1 + 1 + 1)])]) ++ (y₁, lsO (strValues lp.dropLast) ky) :: rest)) _ ⟨rfl, _, _, _, rfl, ?_⟩ (G₆.perm (by simp only [slO]; ktn_no "perm_tac"))
    rw [hti, List.map_append]
    exact hD.snoc
  · rintro m₁ cm₁ news s₅ ⟨rfl, vs, l, k, rfl, hD⟩ G₂
    refine ⟨_, _, _, _, G₂, fun s'' F₂₀ => ?_⟩
    have F₂₁ := F₂₀.sub (news' := (D, lsO vs k) :: (l ++ rest)) ((List.Sublist.append (List.Sublist.refl l) ((List.Sublist.refl rest).cons _)).cons₂ _)
    refine hQo _ _ <| Back.of F₂₁ fun G => h _ _ _ _ _ ?_ G
    have e2 : (lp.dropLast.take (strValues lp.dropLast).length) = lp.dropLast := by rw [hsl]; exact List.take_length
    rw [e2] at hD
    unfold mailF
    rw [← hlp, ← List.map_dropLast, List.map_map]
    exact hD
end
section
variable {w : World} {A : Around} {E : Value → Shared → Prop} {env : Env}
/-- a slice of a list, wherever it is -/
theorem list_sliceI {value : Expr} {lower upper : Option Expr} {p pos : Pos} {Q : Value → Shared → Prop} {s : Shared}
    (q : wpAny (M w) A (eval value env) (fun o s₁ => wpAny (M w) A (evalPart lower env) (fun vl s₂ => wpAny (M w) A (evalPart upper env) (fun vu s₃ =>
      ∃ (B : Heap) (L : Addr) (m : PySem.Str → Option Value) (cl : List (PySem.Str × Addr)) (cm : PySem.Str → Option Value) (news : List (Addr × Obj)) (s₀ : Shared) (x : Addr) (vs : List Value) (lo hi : Option Int), o = .ref x ∧ Fm w B L cl s₀ m cm news s₃ ∧ s₃.heap.IsList x vs.toArray ∧ vs.length ≤ 100000 ∧ IsPart vl lo ∧ IsPart vu hi ∧
        ∀ y h' k, Fm w B L cl s₀ m cm ((y, lsO (slicePick vs.toArray lo hi none).toList k) :: news) ⟨h', s₃.gens, s₃.drawn, s₃.toks, s₃.os⟩ → Q (.ref y) ⟨h', s₃.gens, s₃.drawn, s₃.toks, s₃.os⟩) E s₂) E s₁) E s)
    (ht : ∀ o r, letTemporaryGo value o r = pure () := by intro _ _; rfl) : wpAny (M w) A (eval (.Subscript value (.Slice lower upper none p) pos) env) Q E s := by
  refine wpAny_Subscript_list_slice (wpAny_mono q (fun o s₁ h₁ => wpAny_mono h₁ (fun vl s₂ h₂ => wpAny_mono h₂ (fun vu s₃ h₃ => ?_) fun _ _ z => z) fun _ _ z => z) fun _ _ z => z) ht
  obtain ⟨B, L, m, cl, cm, news, s₀, x, vs, lo, hi, rfl, F, hl, hsz, p1, p2, q⟩ := h₃
  refine ⟨x, vs.toArray, lo, hi, rfl, hl, Nat.le_trans (by simpa using hsz) (show (100000 : Nat) ≤ sizeLine by decide), p1, p2, ?_⟩
  obtain ⟨h₃, g₃, d₃, k₃, o₃⟩ := s₃
  have F₁ := F.push1 (g := g₃) (d := d₃) (tk := k₃) ⟨.type "slice", none, .fields #[vl, vu, .none], #[]⟩
  have F₂ := (F₁.push1 (g := g₃) (d := d₃) (tk := k₃) ⟨.type "list", none, .seq (slicePick vs.toArray lo hi none), #[]⟩).erase 1
  rw [show (h₃.push ⟨.type "slice", none, .fields #[vl, vu, .none], #[]⟩).objs.size = h₃.objs.size + 1 from Heap.size_push _ _] at F₂
  exact q _ _ _ F₂
end
section
variable {w : World} {B : Heap} {L : Addr} {m : PySem.Str → Option Value} {cl : List (PySem.Str × Addr)} {cm : PySem.Str → Option Value} {news : List (Addr × Obj)} {s₀ : Shared} {A : Around} {E : Value → Shared → Prop}
  {h : Heap} {g : Array GenState} {d d₀ : Drawn} {tk tk₀ : Nat} {os : OsState} {env : Env} {x : PySem.Str} {v : Value} {c : Addr}
theorem st_CO {Q : Unit → Shared → Prop} (F : Fm w B L cl s₀ m cm news ⟨h, g, d₀, tk₀, os⟩) (HC : OwnC B cl) (hk : env.scope.kind = .function) (hx : env.kindOf x = some .cell) (hL : env.cells = cl) (hc : (cl.lookup x).isSome = true)
    (q : ∀ h', Fm w B L cl s₀ m (upd cm x v) news ⟨h', g, d, tk, os⟩ → Q () ⟨h', g, d, tk, os⟩) : wpAny (M w) A (storeName env x v) Q E ⟨h, g, d, tk, os⟩ :=
  let ⟨_, hc⟩ := Option.isSome_iff_exists.mp hc; st_C F hk hx hL hc (HC _ _ hc).1 (HC _ _ hc).2 q
end
local macro_rules | `(tactic| ktn_no "x2") => `(tactic| (with_reducible refine st_CO (by assumption) (by assumption) ?a1 ?a2 ?a3 ?a4 (fun _ _ => ?_); (case a1 => kernel_rfl); (case a2 => kernel_rfl!); (case a3 => kernel_rfl); (case a4 => kernel_rfl)))
noncomputable abbrev envLaw (L : Addr) : Env := callEnvC fd_law L a_law
noncomputable abbrev lawSt (i : Nat) : Stmt := body_law.getD i default
theorem inV_of : ∀ {vs : List Value} {ns : List Int}, IntsAre vs ns → ∃ l : List (Int × Tok), vs = inV l ∧ l.map (·.1) = ns
  | _, _, .nil => ⟨[], rfl, rfl⟩
  | _, _, .cons k t h => let ⟨l, a, b⟩ := inV_of h; ⟨(k, t) :: l, by rw [a]; rfl, by rw [← b]; rfl⟩
section
variable {w : World} {B : Heap} {L : Addr} {m cm : PySem.Str → Option Value} {rest : List (Addr × Obj)} {s₀ s : Shared} {A : Around} {n : Nat} {Q : Flow → Shared → Prop}
theorem law_0 {sa : Addr} {vs : List Value} {ns : List Int} (R : Room (n + 20) A) (F : Fm w B L (envLaw L).cells s₀ m cm rest s) (HC : OwnC B (envLaw L).cells) (hB : B.IsList sa vs.toArray) (hI : IntsAre vs ns) (hsz : vs.length ≤ 100) (m1 : m "script" = some (.ref sa))
    (h : ∀ D cs k s', cs.length ≤ 14 → (∀ c ∈ cs, 0 ≤ c.1 ∧ c.1 < 1000000) → Fm w B L (envLaw L).cells s₀ m (upd cm "cells" (.ref D)) ((D, lsO (inV cs) k) :: rest) s' → Q .next s') :
    wpAny (M w) A (exec (lawSt 0) (envLaw L)) Q NoE s := by
  obtain ⟨h₁, g₁, d₁, k₁, o₁⟩ := s
  ktn_no "ast"
  ktn_no "z"
  refine list_compC (B := B) (L := L) (m := m) (cm := cm) (s₀ := s₀) (by kernel_rfl) (by rfl) (by kernel_rfl) (by kernel_rfl) (by kernel_rfl) (fun _ => rfl) ?_
  refine list_sliceI ?_
  ktn_no "z"
  refine evalPart_none_step ?_
  refine evalPart_some_step ?_
  ktn_no "z"
  (refine x1_2 (inV_of hI) ?_; intro l eqX1 hl; subst eqX1)
  refine ⟨_, _, _, _, _, _, _, sa, inV l, none, some (14 : Nat), rfl, F.toks _, ?_, Nat.le_trans hsz (by decide), .none, .int _ _, fun y h₂ ky F₂ => ?_⟩
  · (refine x1_2 (hB) ?_; try clear hB; intro o e r)
    exact ⟨o, F.keep _ _ e, r⟩
  rw [slicePick_upto'] at F₂
  have e0 : ((inV l).toArray.toList.take 14).toArray.toList = inV (l.take 14) := by simp [inV]
  rw [e0] at F₂
  clear F
  dsimp only
  refine iter_list F₂ (i := 0) rfl fun I h₄ F₃ => ?_
  clear F₂
  refine ⟨_, F₃, fun D C s₃ s₄ _ F₄ G => ?_⟩
  have G₁ := G.perm (news' := (I, itO y 0) :: (D, lsO [] 0) :: (y, lsO (inV (l.take 14)) ky) :: rest) (by ktn_no "perm_tac")
  refine comp_simple (steps_seq I y (inV (l.take 14))) (self_seq I y) rfl rfl R.handled (by simp; (first | lia | omega)) (fun j v => ∃ t, v = .int (((l.take 14).getD j default).1.fmod 1000000) t) rfl G₁ (fun m l k s o F => ⟨_, _, F.at 2 rfl, rfl⟩) (fun j v m0 l1 k0 o0 s0 K hj hv G₂ q => ?_) (fun m₅ ls kd s' hl' hv G₃ => ?_)
  · obtain ⟨h, g, d, tk, os⟩ := s0
    have hlt : j < (l.take 14).length := by simpa using hj
    have hv' : v = .int (l.take 14)[j].1 (l.take 14)[j].2 := by
      simp only [inV, List.getElem?_map, List.getElem?_eq_getElem hlt] at hv
      exact (Option.some.inj hv).symm
    subst hv'
    refine wpAny_pure (wpAny_assign_Name ?_)
    refine st_L G₂ (by kernel_rfl) (by kernel_rfl!) (by kernel_rfl) fun h₆ G₃ => ?_
    clear G₁ G₂ G F₄ F₃
    ktn_no "z"
    refine call_int_int ?_
    ktn_no "z"
    refine pow_int_small (by decide) (by decide) (by decide) ?_
    refine mod_int (by decide) ?_
    have hy : ∀ t, ∃ t', Value.int ((l.take 14)[j].1.fmod (10 ^ (6 : Int).toNat)) t = Value.int (((l.take 14).getD j default).1.fmod 1000000) t' := fun t => ⟨t, by
      rw [List.getD_eq_getElem?_getD, List.getElem?_eq_getElem hlt]; rfl⟩
    exact q _ _ _ (hy _) (G₃.toks _)
  · refine ⟨_, _, _, _, G₃, fun s'' F₇ => ?_⟩
    obtain ⟨h₇, g₇, d₇, k₇, o₇⟩ := s''
    (refine x1_2 (ints_of ls _ hv) ?_; intro yl eqX1 hy; subst eqX1)
    clear G G₁ G₃ F₄ F₃
    ktn_no "z"
    rename_i h₈ F₈
    refine h D yl kd _ ?_ ?_ (F₈.sub (((List.sublist_cons_self _ _)).cons₂ _))
    · have := congrArg List.length hy
      simp at this hl'
      (first | lia | omega)
    · intro c hc
      have : c.1 ∈ yl.map (·.1) := List.mem_map_of_mem hc
      rw [hy] at this
      (refine x1_2 (List.mem_map.mp this) ?_; intro j _ hj)
      rw [← hj]
      rw [Int.fmod_eq_emod_of_nonneg _ (by decide)]
      exact ⟨Int.emod_nonneg _ (by decide), Int.emod_lt_of_pos _ (by decide)⟩
end
noncomputable def LiO (l : Addr) (i : Nat) (o : Obj) : Prop := o.cls = .type "list_iterator" ∧ o.data = .fields #[.ref l, .int i 0]
section
variable {w : World} {B : Heap} {L : Addr} {m : PySem.Str → Option Value} {cl : List (PySem.Str × Addr)} {cm : PySem.Str → Option Value} {news : List (Addr × Obj)} {s₀ s : Shared} {A : Around}
  {h : Heap} {g : Array GenState} {d d₀ : Drawn} {tk tk₀ : Nat} {os : OsState}
theorem Fm.freshC {a : Addr} (F : Fm w B L cl s₀ m cm news s) (ha : s.heap.objs.size ≤ a) : a ≠ L ∧ B.get? a = none ∧ szTop ≤ a ∧ a ∉ news.map (·.1) ∧ ∀ n c, cl.lookup n = some c → c ≠ a := by
  refine ⟨fun e => absurd F.ns.lt (by rw [← e]; exact Nat.not_lt.mpr ha), ?_, Nat.le_trans (Nat.le_trans F.szL (Nat.le_of_lt F.ns.lt)) ha, fun q => ?_, fun n c e q => ?_⟩
  · cases q : B.get? a with
    | none => rfl
    | some o => exact absurd (Heap.lt_size (F.keep _ _ q)) (Nat.not_lt.mpr ha)
  · (refine x1_2 (List.mem_map.mp q) ?_; intro p hp e)
    exact absurd (Heap.lt_size (F.nw p hp).1) (by rw [e]; exact Nat.not_lt.mpr ha)
  · exact absurd (F.ce n c e).lt (by rw [q]; exact Nat.not_lt.mpr ha)
theorem Fm.addC {a : Addr} {o : Obj} (F : Fm w B L cl s₀ m cm news s) (hx : s.heap.get? a = some o) (h1 : a ≠ L) (h2 : B.get? a = none) (h3 : szTop ≤ a) (h4 : a ∉ news.map (·.1)) (h5 : ∀ n c, cl.lookup n = some c → c ≠ a) : Fm w B L cl s₀ m cm ((a, o) :: news) s :=
  { F with
    nw := fun p hp => by
      rcases List.mem_cons.mp hp with rfl | hp
      · exact ⟨hx, h1, h2, h3⟩
      · exact F.nw p hp
    nd := List.nodup_cons.mpr ⟨h4, F.nd⟩
    cd := fun n c e => by
      (refine x0_3 (F.cd n c e) ?_; intro a' b c')
      refine ⟨a', fun q => ?_, c'⟩
      rcases List.mem_cons.mp q with q | q
      · exact h5 n c e q
      · exact b q }
theorem enumL_make {l : Addr} {i : Nat} {vs : List Value} {k : Nat} {Q : Value → Shared → Prop} (F : Fm w B L cl s₀ m cm news ⟨h, g, d₀, tk₀, os⟩) (hi : news[i]? = some (l, lsO vs k))
    (q : ∀ E S h' oS, LiO l 0 oS → Fm w B L cl s₀ m cm ((E, enumO S ((0 : Nat) : Int) .none) :: (S, oS) :: news) ⟨h', g, d, tk, os⟩ → Q (.ref E) ⟨h', g, d, tk, os⟩) :
    wpAny (M w) A (call (.type "enumerate") [.ref l]) Q NoE ⟨h, g, d, tk, os⟩ := by
  refine call_enumerate_list (s := ⟨h, g, d, tk, os⟩) (isL (F.at i hi)) fun h' hE hS hz hk => ?_
  (refine x1_2 (hS) ?_; try clear hS; intro oS hS1 hS2)
  have F₁ := Fm.keepAll (d := d) (tk := tk) F hk
  (refine x0_5 (Fm.freshC (a := h.objs.size) F (Nat.le_refl _)) ?_; intro a1 a2 a3 a4 a5)
  (refine x0_5 (Fm.freshC (a := h.objs.size + 1) F (Nat.le_succ _)) ?_; intro b1 b2 b3 b4 b5)
  have F₂ := Fm.addC F₁ hS1 a1 a2 a3 a4 a5
  refine q _ _ h' oS hS2 (Fm.addC F₂ hE b1 b2 b3 ?_ b5)
  rw [List.map_cons, List.mem_cons, not_or]
  exact ⟨Nat.succ_ne_self _, b4⟩
theorem enumL_next {E S l : Addr} {oS : Obj} {vs : List Value} {p : Nat} {v old : Value} {Q : Option Value → Shared → Prop} {Er : Value → Shared → Prop} (F : Fm w B L cl s₀ m cm ((E, enumO S p old) :: (S, oS) :: news) ⟨h, g, d₀, tk₀, os⟩) (ho : LiO l p oS) (hl : h.IsList l vs.toArray) (hv : vs[p]? = some v)
    (q : ∀ T h' tk' t1 oS', LiO l (p + 1) oS' → Fm w B L cl s₀ m cm ((T, tupO [.int p t1, v]) :: (E, enumP S (p + 1 : Nat) v T) :: (S, oS') :: news) ⟨h', g, d, tk', os⟩ → Q (some (.ref T)) ⟨h', g, d, tk', os⟩) :
    wpAny (M w) A (pyNext (.ref E)) Q Er ⟨h, g, d, tk, os⟩ := by
  have hnd := F.nd
  simp only [List.map_cons, List.nodup_cons, List.mem_cons, not_or] at hnd
  refine wpAny_pyNext_enum_item (s := ⟨h, g, d, tk, os⟩) (F.at 0 rfl) ⟨oS, F.at 1 rfl, ho⟩ hl (by simpa using hv) hnd.1.1 fun h' hE' hS' hT hsz hk => ?_
  (refine x1_2 (hS') ?_; try clear hS'; intro oS' hS' hd')
  have F₂ := Fm.set2 (h' := h') (d := d) (tk := tk + 1) F (fun b o h1 h2 e => hk b o h1 h2 e) hE' hS'
  (refine x0_5 (Fm.freshC (a := h.objs.size) F (Nat.le_refl _)) ?_; intro a1 a2 a3 a4 a5)
  exact q _ h' (tk + 1) tk oS' hd' (Fm.addC F₂ hT a1 a2 a3 a4 a5)
theorem enumL_end {E S l : Addr} {oS : Obj} {vs : List Value} {p : Nat} {old : Value} {Q : Option Value → Shared → Prop} {Er : Value → Shared → Prop} (F : Fm w B L cl s₀ m cm ((E, enumO S p old) :: (S, oS) :: news) ⟨h, g, d₀, tk₀, os⟩) (hh : A.handled = none) (ho : LiO l p oS) (hl : h.IsList l vs.toArray) (hv : vs.length = p)
    (q : ∀ h', Fm w B L cl s₀ m cm ((E, enumO S p old) :: news) ⟨h', g, d, tk, os⟩ → Q none ⟨h', g, d, tk, os⟩) :
    wpAny (M w) A (pyNext (.ref E)) Q Er ⟨h, g, d, tk, os⟩ := by
  refine wpAny_pyNext_enum_end (s := ⟨h, g, d, tk, os⟩) hh (F.at 0 rfl) ⟨oS, F.at 1 rfl, ho⟩ hl (by simp [hv]) fun h' he' => ?_
  have F₁ := F.perm (news' := (S, oS) :: (E, enumO S p old) :: news) (by ktn_no "perm_tac")
  exact q h' (Fm.lose (s := ⟨h, g, d, tk, os⟩) F₁.withD fun b ob hb e => he' b ob hb e)
end
section
variable {w : World} {B : Heap} {C : Addr} {cl : List (PySem.Str × Addr)} {s₀ : Shared} {A : Around} {n : Nat} {it : Value}
  {elt target iter : Expr} {ifs : List Expr} {gens : List Comprehension} {scope : Scope} {pos : Pos} {acc : Value} {d : Nat} {env : Env} {Q : Shared → Prop}
  {Inv : Nat → (PySem.Str → Option Value) → (PySem.Str → Option Value) → List (Addr × Obj) → Prop} {Mid : Nat → Value → (PySem.Str → Option Value) → (PySem.Str → Option Value) → List (Addr × Obj) → Prop} {End : (PySem.Str → Option Value) → (PySem.Str → Option Value) → List (Addr × Obj) → Prop}
theorem comp_runG (hg : gens[d]? = some ⟨target, iter, ifs, 0⟩) (hn : gens[d + 1]? = none)
    (next : ∀ i m cm news s (Q' : Option Value → Shared → Prop), i < n → Inv i m cm news → Fm w B C cl s₀ m cm news s → (∀ v news' s', Mid i v m cm news' → Fm w B C cl s₀ m cm news' s' → Q' (some v) s') → wpAny (M w) A (pyNext it) Q' NoE s)
    (fin : ∀ m cm news s (Q' : Option Value → Shared → Prop), Inv n m cm news → Fm w B C cl s₀ m cm news s → (∀ news' s', End m cm news' → Fm w B C cl s₀ m cm news' s' → Q' none s') → wpAny (M w) A (pyNext it) Q' NoE s)
    (body : ∀ i v m cm news s (K : Shared → Prop), i < n → Mid i v m cm news → Fm w B C cl s₀ m cm news s →
      (∀ m' cm' news' s', Inv (i + 1) m' cm' news' → Fm w B C cl s₀ m' cm' news' s' → K s') →
      wpAny (M w) A (letOwnedTupleGo target it v) (fun _ s₁' => wpAny (M w) A (assign target env v) (fun _ s₂ => wpAny (M w) A (ifsOk env ifs) (fun ok s₃ =>
          if ok = true then wpAny (M w) A (eval elt env) (fun y s₄ => wpAny (M w) A (call (.builtin "list.append") [acc, y]) (fun _ s₅ => K s₅) NoE s₄) NoE s₃
          else K s₃) NoE s₂) NoE s₁') NoE s) :
    ∀ (k i : Nat) (m cm : PySem.Str → Option Value) (news : List (Addr × Obj)) (s : Shared), i + k = n → Inv i m cm news → Fm w B C cl s₀ m cm news s →
      (∀ m' cm' news' s', End m' cm' news' → Fm w B C cl s₀ m' cm' news' s' → Q s') → CompC w A (.ListComp elt gens scope pos) d it acc env Q s
  | 0, i, m, cm, news, s, hi, hv, F, hq => by
    refine comp_step hg hn (fin m cm news s _ (by rw [show n = i by (first | lia | omega)]; exact hv) F fun news' s' he F' => hq _ _ _ _ he F')
  | k + 1, i, m, cm, news, s, hi, hv, F, hq => by
    refine comp_step hg hn (next i m cm news s _ (by ktn_no "om") hv F fun v news' s' hm F' => ?_)
    refine body i v m cm news' s' _ (by ktn_no "om") hm F' fun m'' cm'' news'' s'' hv'' F'' => ?_
    exact comp_runG hg hn next fin body k (i + 1) m'' cm'' news'' s'' (by ktn_no "om") hv'' F'' hq
theorem comp_runG2 {target' iter' : Expr} {ifs' : List Expr} (hg : gens[d]? = some ⟨target, iter, ifs, 0⟩) (hn : gens[d + 1]? = some ⟨target', iter', ifs', 0⟩) (hf : ∀ x, foldedSetIterable iter' env x = pure x)
    (next : ∀ i m cm news s (Q' : Option Value → Shared → Prop), i < n → Inv i m cm news → Fm w B C cl s₀ m cm news s → (∀ v news' s', Mid i v m cm news' → Fm w B C cl s₀ m cm news' s' → Q' (some v) s') → wpAny (M w) A (pyNext it) Q' NoE s)
    (fin : ∀ m cm news s (Q' : Option Value → Shared → Prop), Inv n m cm news → Fm w B C cl s₀ m cm news s → (∀ news' s', End m cm news' → Fm w B C cl s₀ m cm news' s' → Q' none s') → wpAny (M w) A (pyNext it) Q' NoE s)
    (body : ∀ i v m cm news s (K : Shared → Prop), i < n → Mid i v m cm news → Fm w B C cl s₀ m cm news s →
      (∀ m' cm' news' s', Inv (i + 1) m' cm' news' → Fm w B C cl s₀ m' cm' news' s' → K s') →
      wpAny (M w) A (letOwnedTupleGo target it v) (fun _ s₁' => wpAny (M w) A (assign target env v) (fun _ s₂ => wpAny (M w) A (ifsOk env ifs) (fun ok s₃ =>
          if ok = true then wpAny (M w) A (eval iter' env) (fun x s₄ => wpAny (M w) A (pyIter x) (fun it' s₅ => CompS w A (.ListComp elt gens scope pos) (d + 1) it' acc env K s₅) NoE s₄) NoE s₃
          else K s₃) NoE s₂) NoE s₁') NoE s) :
    ∀ (k i : Nat) (m cm : PySem.Str → Option Value) (news : List (Addr × Obj)) (s : Shared), i + k = n → Inv i m cm news → Fm w B C cl s₀ m cm news s →
      (∀ m' cm' news' s', End m' cm' news' → Fm w B C cl s₀ m' cm' news' s' → Q s') → CompC w A (.ListComp elt gens scope pos) d it acc env Q s
  | 0, i, m, cm, news, s, hi, hv, F, hq => by
    refine comp_outer hg hn hf (fin m cm news s _ (by rw [show n = i by (first | lia | omega)]; exact hv) F fun news' s' he F' => hq _ _ _ _ he F')
  | k + 1, i, m, cm, news, s, hi, hv, F, hq => by
    refine comp_outer hg hn hf (next i m cm news s _ (by ktn_no "om") hv F fun v news' s' hm F' => ?_)
    refine body i v m cm news' s' _ (by ktn_no "om") hm F' fun m'' cm'' news'' s'' hv'' F'' => ?_
    exact comp_runG2 hg hn hf next fin body k (i + 1) m'' cm'' news'' s'' (by ktn_no "om") hv'' F'' hq
theorem comp_allG (hg : gens[d]? = some ⟨target, iter, ifs, 0⟩) (hn : gens[d + 1]? = none)
    (self : ∀ (s : Shared) (Q' : Value → Shared → Prop), (∃ m cm news, Inv 0 m cm news ∧ Fm w B C cl s₀ m cm news s) → Q' it s → wpAny (M w) A (pyIter it) Q' NoE s)
    (next : ∀ i m cm news s (Q' : Option Value → Shared → Prop), i < n → Inv i m cm news → Fm w B C cl s₀ m cm news s → (∀ v news' s', Mid i v m cm news' → Fm w B C cl s₀ m cm news' s' → Q' (some v) s') → wpAny (M w) A (pyNext it) Q' NoE s)
    (fin : ∀ m cm news s (Q' : Option Value → Shared → Prop), Inv n m cm news → Fm w B C cl s₀ m cm news s → (∀ news' s', End m cm news' → Fm w B C cl s₀ m cm news' s' → Q' none s') → wpAny (M w) A (pyNext it) Q' NoE s)
    (body : ∀ i v m cm news s (K : Shared → Prop), i < n → Mid i v m cm news → Fm w B C cl s₀ m cm news s →
      (∀ m' cm' news' s', Inv (i + 1) m' cm' news' → Fm w B C cl s₀ m' cm' news' s' → K s') →
      wpAny (M w) A (letOwnedTupleGo target it v) (fun _ s₁' => wpAny (M w) A (assign target env v) (fun _ s₂ => wpAny (M w) A (ifsOk env ifs) (fun ok s₃ =>
          if ok = true then wpAny (M w) A (eval elt env) (fun y s₄ => wpAny (M w) A (call (.builtin "list.append") [acc, y]) (fun _ s₅ => K s₅) NoE s₄) NoE s₃
          else K s₃) NoE s₂) NoE s₁') NoE s)
    {m cm : PySem.Str → Option Value} {news : List (Addr × Obj)} {s : Shared} (hv : Inv 0 m cm news) (F : Fm w B C cl s₀ m cm news s)
    (hq : ∀ m' cm' news' s', End m' cm' news' → Fm w B C cl s₀ m' cm' news' s' → Q s') : CompS w A (.ListComp elt gens scope pos) d it acc env Q s := by
  have run := comp_runG (acc := acc) (scope := scope) (pos := pos) hg hn next fin body n 0 m cm news s (by ktn_no "om") hv F hq
  exact comp_start hg run (self s _ ⟨m, cm, news, hv, F⟩ run)
theorem comp_allG2 {target' iter' : Expr} {ifs' : List Expr} (hg : gens[d]? = some ⟨target, iter, ifs, 0⟩) (hn : gens[d + 1]? = some ⟨target', iter', ifs', 0⟩) (hf : ∀ x, foldedSetIterable iter' env x = pure x)
    (self : ∀ (s : Shared) (Q' : Value → Shared → Prop), (∃ m cm news, Inv 0 m cm news ∧ Fm w B C cl s₀ m cm news s) → Q' it s → wpAny (M w) A (pyIter it) Q' NoE s)
    (next : ∀ i m cm news s (Q' : Option Value → Shared → Prop), i < n → Inv i m cm news → Fm w B C cl s₀ m cm news s → (∀ v news' s', Mid i v m cm news' → Fm w B C cl s₀ m cm news' s' → Q' (some v) s') → wpAny (M w) A (pyNext it) Q' NoE s)
    (fin : ∀ m cm news s (Q' : Option Value → Shared → Prop), Inv n m cm news → Fm w B C cl s₀ m cm news s → (∀ news' s', End m cm news' → Fm w B C cl s₀ m cm news' s' → Q' none s') → wpAny (M w) A (pyNext it) Q' NoE s)
    (body : ∀ i v m cm news s (K : Shared → Prop), i < n → Mid i v m cm news → Fm w B C cl s₀ m cm news s →
      (∀ m' cm' news' s', Inv (i + 1) m' cm' news' → Fm w B C cl s₀ m' cm' news' s' → K s') →
      wpAny (M w) A (letOwnedTupleGo target it v) (fun _ s₁' => wpAny (M w) A (assign target env v) (fun _ s₂ => wpAny (M w) A (ifsOk env ifs) (fun ok s₃ =>
          if ok = true then wpAny (M w) A (eval iter' env) (fun x s₄ => wpAny (M w) A (pyIter x) (fun it' s₅ => CompS w A (.ListComp elt gens scope pos) (d + 1) it' acc env K s₅) NoE s₄) NoE s₃
          else K s₃) NoE s₂) NoE s₁') NoE s)
    {m cm : PySem.Str → Option Value} {news : List (Addr × Obj)} {s : Shared} (hv : Inv 0 m cm news) (F : Fm w B C cl s₀ m cm news s)
    (hq : ∀ m' cm' news' s', End m' cm' news' → Fm w B C cl s₀ m' cm' news' s' → Q s') : CompS w A (.ListComp elt gens scope pos) d it acc env Q s := by
  have run := comp_runG2 (acc := acc) (scope := scope) (pos := pos) hg hn hf next fin body n 0 m cm news s (by ktn_no "om") hv F hq
  exact comp_start hg run (self s _ ⟨m, cm, news, hv, F⟩ run)
end
theorem slicePick_mem (items : Array Value) (lo hi st : Option Int) : ∀ v ∈ (slicePick items lo hi st).toList, v ∈ items.toList := by
  intro v hv
  unfold slicePick at hv
  simp only [List.mem_filterMap, Array.toList_filterMap, List.toList_toArray, List.mem_toArray] at hv
  (refine x1_2 (hv) ?_; try clear hv; intro i _ hi)
  exact List.mem_of_getElem? (by rw [Array.getElem?_toList]; exact hi)
section
variable {w : World} {B : Heap} {L : Addr} {m cm : PySem.Str → Option Value} {cl : List (PySem.Str × Addr)} {news rest : List (Addr × Obj)} {s₀ s : Shared} {A : Around} {n : Nat}
  {h : Heap} {g : Array GenState} {d d₀ : Drawn} {tk tk₀ : Nat} {os : OsState}
theorem sum_ints {l : Addr} {xs : List (Int × Tok)} {Q : Value → Shared → Prop} (F : Fm w B L cl s₀ m cm news ⟨h, g, d₀, tk₀, os⟩) (hh : A.handled = none) (hl : h.IsList l (inV xs).toArray)
    (q : ∀ t h' tk', Fm w B L cl s₀ m cm news ⟨h', g, d, tk', os⟩ → Q (.int (xs.map (·.1)).sum t) ⟨h', g, d, tk', os⟩) : wpAny (M w) A (call (.builtin "sum") [.ref l]) Q NoE ⟨h, g, d, tk, os⟩ := by
  have hi := intsAre xs
  obtain ⟨ys, hx⟩ := hi.allInts.items
  have hn : numsOf (inV xs).toArray.toList = xs.map (·.1) := by rw [show (inV xs).toArray.toList = inV xs from rfl, hi.numsOf]
  rw [hx] at hl hn
  rw [nums_intItems] at hn
  refine sum_intListG (s := ⟨h, g, d, tk, os⟩) hh hl fun h' tk' t' hk => ?_
  have := q t' h' tk' (Fm.keepAll F hk)
  rw [preSum_eq, List.take_of_length_le (by simp), hn]
  exact this
theorem slice_tail3 {E : Value → Shared → Prop} {a sl : Addr} {vs : List Value} {k : Nat} {value slice : Expr} {vl vu vst : Value} {lo hi st : Option Int} {Q : Value → Shared → Prop}
    (F : Fm w B L cl s₀ m cm news ⟨h, g, d₀, tk₀, os⟩) (hl' : h.get? a = some (lsO vs k)) (hs : h.get? sl = some (slO vl vu vst)) (p1 : IsPart vl lo) (p2 : IsPart vu hi) (p3 : IsPart vst st) (h0 : st ≠ some 0) (hsz : vs.length ≤ 100000)
    (q : ∀ y h' k, Fm w B L cl s₀ m cm ((y, lsO (slicePick vs.toArray lo hi st).toList k) :: news) ⟨h', g, d, tk, os⟩ → Q (.ref y) ⟨h', g, d, tk, os⟩)
    (hss : subscripted slice false (.ref a) (.ref sl) = operate [.ref a, .ref sl] (getItem (.ref a) (.ref sl)) := by with_unfolding_all rfl) :
    wpAny (M w) A (subscriptTail value slice (.ref a) (.ref sl)) Q E ⟨h, g, d, tk, os⟩ := by
  have hl := isL hl'
  refine sub_tail hl.typeIs slot_list_getitem.lookup (fun _ _ _ h => wpAny_letTemporaryGo h) (wpAny_getItem_list_slice hl ⟨_, hs, rfl, rfl⟩ p1 p2 p3 h0 ?_ (Nat.le_trans (by simpa using hsz) (show (100000 : Nat) ≤ sizeLine by decide))) hss
  have F₂ := F.push1 (g := g) (d := d) (tk := tk) ⟨.type "list", none, .seq (slicePick vs.toArray lo hi st), #[]⟩
  exact q _ _ _ F₂
theorem law_1 {Q : Flow → Shared → Prop} {D : Addr} {cs : List (Int × Tok)} {k : Nat} (R : Room (n + 20) A) (F : Fm w B L (envLaw L).cells s₀ m cm rest s) (HC : OwnC B (envLaw L).cells) (hD : (D, lsO (inV cs) k) ∈ rest) (hlen : cs.length ≤ 14) (hcs : ∀ c ∈ cs, 0 ≤ c.1)
    (c1 : cm "cells" = some (.ref D))
    (h : ∀ N ns k' s', ns.length = 7 → (∀ c ∈ ns, 0 ≤ c.1) → Fm w B L (envLaw L).cells s₀ (upd m "numbers" (.ref N)) cm ((N, lsO (inV ns) k') :: rest) s' → Q .next s') :
    wpAny (M w) A (exec (lawSt 1) (envLaw L)) Q NoE s := by
  obtain ⟨h₁, g₁, d₁, k₁, o₁⟩ := s
  ktn_no "ast"
  refine list_comp_toC (B := B) (L := L) (m := m) (cm := cm) (s₀ := s₀) (by kernel_rfl) (by kernel_rfl) (by rfl) (by kernel_rfl) (by kernel_rfl) (by kernel_rfl) (fun _ => rfl) (by kernel_rfl) (by kernel_rfl) (by kernel_rfl) ?_
  ktn_no "z"
  refine st_newList (by simp) ?_
  obtain ⟨bl, hbl, hb0, hbn⟩ : ∃ bl : List (Int × Tok), inV bl = [Value.int 1 k₁, Value.int 2 (k₁ + 1), Value.int 5 (k₁ + 1 + 1), Value.int 3 (k₁ + 1 + 1 + 1), Value.int 6 (k₁ + 1 + 1 + 1 + 1), Value.int 0 (k₁ + 1 + 1 + 1 + 1 + 1), Value.int 2 (k₁ + 1 + 1 + 1 + 1 + 1 + 1)] ∧ bl.length = 7 ∧ ∀ c ∈ bl, 0 ≤ c.1 :=
    ⟨[(1, k₁), (2, k₁ + 1), (5, k₁ + 1 + 1), (3, k₁ + 1 + 1 + 1), (6, k₁ + 1 + 1 + 1 + 1), (0, k₁ + 1 + 1 + 1 + 1 + 1), (2, k₁ + 1 + 1 + 1 + 1 + 1 + 1)], rfl, rfl, by simp⟩
  rw [← hbl]
  have F₂ := F.push1 (g := g₁) (d := d₁) (tk := k₁ + 7) (lsO (inV bl) 0)
  clear F
  ktn_no "z"
  refine enumL_make F₂ (i := 0) rfl fun E S h₃ oS hoS F₃ => ?_
  clear F₂
  refine wpAny_pyIter_enum (F₃.at 0 rfl) ?_
  refine ⟨_, F₃.toks _, fun D' C s₃ s₄ _ F₄ G => ?_⟩
  have G₁ := G.perm (news' := (E, enumO S ((0 : Nat) : Int) .none) :: (S, oS) :: (D', lsO [] 0) :: (h₁.objs.size, lsO (inV bl) 0) :: rest) (by ktn_no "perm_tac")
  refine comp_allG (n := 7)
    (Inv := fun i m cm' news => cm' = cm ∧ ∃ old oS l kd, news = (E, enumO S (i : Nat) old) :: (S, oS) :: (D', lsO (inV l) kd) :: (h₁.objs.size, lsO (inV bl) 0) :: rest ∧ LiO h₁.objs.size i oS ∧ l.length = i ∧ ∀ c ∈ l, 0 ≤ c.1)
    (Mid := fun i v m cm' news => cm' = cm ∧ ∃ (T : Addr) (oS : Obj) (l : List (Int × Tok)) (kd : Nat) (t1 : Tok) (b : Int × Tok), v = .ref T ∧ 0 ≤ b.1 ∧ news = (T, tupO [.int (i : Nat) t1, .int b.1 b.2]) :: (E, enumP S (i + 1 : Nat) (.int b.1 b.2) T) :: (S, oS) :: (D', lsO (inV l) kd) :: (h₁.objs.size, lsO (inV bl) 0) :: rest ∧ LiO h₁.objs.size (i + 1) oS ∧ l.length = i ∧ ∀ c ∈ l, 0 ≤ c.1)
    (End := fun m cm' news => cm' = cm ∧ ∃ o l kd, news = (E, o) :: (D', lsO (inV l) kd) :: (h₁.objs.size, lsO (inV bl) 0) :: rest ∧ l.length = 7 ∧ ∀ c ∈ l, 0 ≤ c.1)
    rfl rfl (fun s Q' hh q => by rcases hh with ⟨_, _, _, ⟨_, _, _, _, _, e, _⟩, F⟩; subst e; exact wpAny_pyIter_enum (F.at 0 rfl) q)
    (fun i m cm' news s Q' hi hv F q => by
      (refine y4_4 (hv) ?_; try clear hv; intro eqX0 old oS l kd eqX5 hoS hl hp; subst eqX0; subst eqX5)
      obtain ⟨h, g, d, tk, os⟩ := s
      have hbi : (inV bl)[i]? = some (.int (bl[i]'(by ktn_no "om")).1 (bl[i]'(by ktn_no "om")).2) := by simp [List.getElem?_eq_getElem (show i < bl.length by (first | lia | omega))]
      refine enumL_next F hoS (isL (F.at 3 rfl)) hbi fun T h' tk' t1 oS' hoS' F' => ?_
      exact q _ _ _ ⟨rfl, T, oS', l, kd, t1, bl[i]'(by ktn_no "om"), rfl, hbn _ (List.getElem_mem _), rfl, hoS', hl, hp⟩ F')
    (fun m cm' news s Q' hv F q => by
      (refine y4_4 (hv) ?_; try clear hv; intro eqX0 old oS l kd eqX5 hoS hl hp; subst eqX0; subst eqX5)
      obtain ⟨h, g, d, tk, os⟩ := s
      refine enumL_end F R.handled hoS (isL (F.at 3 rfl)) (by simp [hb0]) fun h' F' => ?_
      exact q _ _ ⟨rfl, _, l, kd, rfl, hl, hp⟩ F')
    (fun i v m cm' news s K hi hv F q => by
      (refine y6_6 (hv) ?_; try clear hv; intro eqX0 T oS l kd t1 b eqX7 hb eqX9 hoS hl hp; subst eqX0; subst eqX7; subst eqX9)
      obtain ⟨h, g, d, tk, os⟩ := s
      refine enum_go F fun h₅ F₅ => ?_
      refine assign_pair F₅ R.handled (F₅.at 0 rfl) (by kernel_rfl) (by kernel_rfl) (by kernel_rfl) (by kernel_rfl) fun h₆ k₆ F₆ => ?_
      clear F F₅ G G₁ F₃ F₄
      replace F₆ := F₆.drop 1
      dsimp only [List.drop] at F₆
      have hD' := (F₆.nw _ (show (D, lsO (inV cs) k) ∈ _ from .tail _ (.tail _ (.tail _ (.tail _ hD))))).1
      refine wpAny_tests_nil ?_
      rw [if_pos rfl]
      ktn_no "z"
      refine wpAny_Slice ?_
      refine evalPart_some_step ?_
      ktn_no "z"
      refine evalPart_none_step ?_
      refine evalPart_some_step ?_
      ktn_no "z"
      have F₇ := fun t => F₆.push1 (g := g) (d := d) (tk := k₆) (slO (.int (i : Nat) t1) .none (.int 7 t))
      have hslt : h₆.objs.size ≠ D := fun e => absurd (Heap.lt_size hD') (by rw [← e]; exact Nat.lt_irrefl _)
      refine slice_tail3 (F₇ _) (Heap.get?_push_of_some _ hD') ((F₇ _).at 0 rfl) (.int _ _) .none (.int _ _) (by simp) (by simp; (first | lia | omega)) fun y h₈ ky F₈ => ?_
      (refine x1_2 (inV_of (IntsAre.pick (intsAre cs) (some ((i : Nat) : Int)) none (some 7))) ?_; intro xs hxs hxn)
      rw [hxs] at F₈
      have hxp : 0 ≤ (xs.map (·.1)).sum := by
        have hm : ∀ c ∈ xs, 0 ≤ c.1 := fun c hc => by
          have : Value.int c.1 c.2 ∈ inV cs := by
            have := slicePick_mem (inV cs).toArray (some ((i : Nat) : Int)) none (some 7) (.int c.1 c.2) (by rw [hxs]; exact List.mem_map_of_mem (f := fun p : Int × Tok => Value.int p.1 p.2) hc)
            simpa using this
          (refine x1_2 (List.mem_map.mp this) ?_; intro c' hc' e)
          have e1 : c'.1 = c.1 := by injection e
          rw [← e1]
          exact hcs _ hc'
        clear hxs hxn F₈
        induction xs with
        | nil => simp
        | cons a xs ih =>
          have h1 := hm a (.head _)
          have h2 := ih fun c hc => hm c (.tail _ hc)
          simp only [List.map_cons, List.sum_cons]
          (first | lia | omega)
      clear F₆ F₇
      ktn_no "z"
      refine sum_ints F₈ R.handled (isL (F₈.at 0 rfl)) fun t₉ h₉ k₉ F₉ => ?_
      ktn_no "z"
      have F₁₀ := F₉.drop 2
      dsimp only [List.drop] at F₁₀
      refine app_at 2 F₁₀ rfl (by simp; (first | lia | omega)) fun h₁₁ F₁₁ => ?_
      dsimp only [List.set] at F₁₁
      refine q _ _ ((E, enumO S (i + 1 : Nat) _) :: (S, oS) :: (D', lsO (inV (l ++ [(b.1 + (xs.map (·.1)).sum, k₉)])) (kd + 1)) :: (h₁.objs.size, lsO (inV bl) 0) :: rest) _ ⟨rfl, _, _, _, _, rfl, hoS, by simp [hl], fun c hc => ?_⟩ (by simpa [inV] using F₁₁)
      rcases List.mem_append.mp hc with hc | hc
      · exact hp c hc
      · simp at hc
        rw [hc]
        show 0 ≤ b.1 + (xs.map (·.1)).sum
        (first | lia | omega)) ⟨rfl, _, oS, [], 0, rfl, hoS, rfl, by simp⟩ G₁ ?_
  rintro m' cm' news' s' ⟨rfl, o, l, kd, rfl, hl, hp⟩ G₂
  refine ⟨_, _, _, _, G₂, fun s'' F₇ => ?_⟩
  exact h D' l kd _ hl hp (F₇.sub ((((List.sublist_cons_self _ _)).cons₂ _).cons _))
end
theorem strs_of : ∀ (ls : List Value) (f : Nat → PySem.Str), (∀ j v, ls[j]? = some v → ∃ t, v = Value.str (f j) t) → ∃ y : List (PySem.Str × Tok), ls = strValues y ∧ y.map (·.1) = (List.range ls.length).map f
  | [], f, _ => ⟨[], rfl, rfl⟩
  | v :: ls, f, h => by
    obtain ⟨t, rfl⟩ := h 0 v rfl
    (refine x1_2 (strs_of ls (fun j => f (j + 1)) fun j v e => h (j + 1) v (by simpa using e)) ?_; intro y hy he)
    refine ⟨(f 0, t) :: y, by rw [hy]; rfl, ?_⟩
    rw [List.map_cons, he, List.length_cons, List.range_succ_eq_map, List.map_cons, List.map_map]
    rfl
noncomputable abbrev xS : PySem.Str := Str.ofString "x"
noncomputable def wordS (k : Nat) : PySem.Str := Txt.mul xS k ++ scS
section
variable {w : World} {B : Heap} {L : Addr} {m cm : PySem.Str → Option Value} {cl : List (PySem.Str × Addr)} {news rest : List (Addr × Obj)} {s₀ s : Shared} {A : Around} {n : Nat}
theorem assign_LC {h : Heap} {g : Array GenState} {d d₀ : Drawn} {tk tk₀ : Nat} {os : OsState} {env : Env} {x1 x2 : PySem.Str} {p1 p2 pos : Pos} {k : Nat} {q : Addr} {v1 v2 : Value} {Q : Unit → Shared → Prop} (F : Fm w B L cl s₀ m cm news ⟨h, g, d₀, tk₀, os⟩) (HC : OwnC B cl) (hh : A.handled = none) (ht : h.get? q = some (tupO [v1, v2]))
    (hk : env.scope.kind = .function) (hx1 : env.kindOf x1 = some .local) (hx2 : env.kindOf x2 = some .cell) (hL : env.locals = L) (hLc : env.cells = cl) (hc2 : (cl.lookup x2).isSome = true)
    (hq : ∀ h' tk', Fm w B L cl s₀ (upd m x1 v1) (upd cm x2 v2) news ⟨h', g, d, tk', os⟩ → Q () ⟨h', g, d, tk', os⟩) : wpAny (M w) A (assign (.Tuple [.Name x1 p1, .Name x2 p2] k pos) env (.ref q)) Q NoE ⟨h, g, d, tk, os⟩ := by
  refine assign_Tuple_tuple hh (tupO_is ht) rfl rfl fun h₁ he => ?_
  refine assignInOrder_cons (wpAny_assign_Name (st_L (F.keepAll (d := d) (tk := tk) (ext_keep he)) hk hx1 hL fun h₂ F₂ => ?_))
  refine assignInOrder_cons (wpAny_assign_Name (st_CO F₂ HC hk hx2 hLc hc2 fun h₃ F₃ => ?_))
  exact assignInOrder_nil (hq _ _ F₃)
theorem assign_CC {h : Heap} {g : Array GenState} {d d₀ : Drawn} {tk tk₀ : Nat} {os : OsState} {env : Env} {x1 x2 : PySem.Str} {p1 p2 pos : Pos} {k : Nat} {q : Addr} {v1 v2 : Value} {Q : Unit → Shared → Prop} (F : Fm w B L cl s₀ m cm news ⟨h, g, d₀, tk₀, os⟩) (HC : OwnC B cl) (hh : A.handled = none) (ht : h.get? q = some (tupO [v1, v2]))
    (hk : env.scope.kind = .function) (hx1 : env.kindOf x1 = some .cell) (hx2 : env.kindOf x2 = some .cell) (hLc : env.cells = cl) (hc1 : (cl.lookup x1).isSome = true) (hc2 : (cl.lookup x2).isSome = true)
    (hq : ∀ h' tk', Fm w B L cl s₀ m (upd (upd cm x1 v1) x2 v2) news ⟨h', g, d, tk', os⟩ → Q () ⟨h', g, d, tk', os⟩) : wpAny (M w) A (assign (.Tuple [.Name x1 p1, .Name x2 p2] k pos) env (.ref q)) Q NoE ⟨h, g, d, tk, os⟩ := by
  refine assign_Tuple_tuple hh (tupO_is ht) rfl rfl fun h₁ he => ?_
  refine assignInOrder_cons (wpAny_assign_Name (st_CO (F.keepAll (d := d) (tk := tk) (ext_keep he)) HC hk hx1 hLc hc1 fun h₂ F₂ => ?_))
  refine assignInOrder_cons (wpAny_assign_Name (st_CO F₂ HC hk hx2 hLc hc2 fun h₃ F₃ => ?_))
  exact assignInOrder_nil (hq _ _ F₃)
theorem law_2 {Q : Flow → Shared → Prop} {N : Addr} {ns : List (Int × Tok)} {k : Nat} (R : Room (n + 20) A) (F : Fm w B L (envLaw L).cells s₀ m cm rest s) (HC : OwnC B (envLaw L).cells) (hN : (N, lsO (inV ns) k) ∈ rest) (hlen : ns.length = 7) (hns : ∀ c ∈ ns, 0 ≤ c.1)
    (m1 : m "numbers" = some (.ref N))
    (h : ∀ W ws k' t (ks : List Nat) (wd : Nat) s', ks.length = 6 → (∀ c ∈ ks, c ≤ 4) → ws.map (·.1) = ks.map wordS → wd ≤ 10 → Fm w B L (envLaw L).cells s₀ (upd m "words" (.ref W)) (upd cm "width" (.int (4 + wd : Nat) t)) ((W, lsO (strValues ws) k') :: rest) s' → Q .next s') :
    wpAny (M w) A (exec (lawSt 2) (envLaw L)) Q NoE s := by
  obtain ⟨h₁, g₁, d₁, k₁, o₁⟩ := s
  ktn_no "ast"
  refine Assign_Tuple ?_ rfl rfl
  refine Tuple_ ?_
  refine sp_cons ?_ (by kernel_rfl)
  refine list_compC (B := B) (L := L) (m := m) (cm := cm) (s₀ := s₀) (by kernel_rfl) (by rfl) (by kernel_rfl) (by kernel_rfl) (by kernel_rfl) (fun _ => rfl) ?_
  refine list_slice ?_
  ktn_no "z"
  refine evalPart_none_step ?_
  refine evalPart_some_step ?_
  ktn_no "z"
  obtain ⟨j, hj⟩ := List.getElem?_of_mem hN
  refine ⟨_, _, _, _, _, _, _, _, j, _, _, none, some (6 : Nat), rfl, F.toks _, hj, by simp; (first | lia | omega), .none, .int _ _, fun y h₂ ky F₂ => ?_⟩
  rw [slicePick_upto'] at F₂
  have e0 : ((inV ns).toArray.toList.take 6).toArray.toList = inV (ns.take 6) := by simp [inV]
  rw [e0] at F₂
  clear F
  dsimp only
  refine iter_list F₂ (i := 0) rfl fun I h₄ F₃ => ?_
  clear F₂
  refine ⟨_, F₃, fun D C s₃ s₄ _ F₄ G => ?_⟩
  have G₁ := G.perm (news' := (I, itO y 0) :: (D, lsO [] 0) :: (y, lsO (inV (ns.take 6)) ky) :: rest) (by ktn_no "perm_tac")
  refine comp_simple (steps_seq I y (inV (ns.take 6))) (self_seq I y) rfl rfl R.handled (by simp; (first | lia | omega)) (fun j v => ∃ t, v = .str (wordS (((ns.take 6).getD j default).1.toNat % 5)) t) rfl G₁ (fun m l k s o F => ⟨_, _, F.at 2 rfl, rfl⟩) (fun j v m0 l1 k0 o0 s0 K hj hv G₂ q => ?_) (fun m₅ ls kd s' hl' hv G₃ => ?_)
  · obtain ⟨h, g, d, tk, os⟩ := s0
    have hlt : j < (ns.take 6).length := by simpa using hj
    have hv' : v = .int (ns.take 6)[j].1 (ns.take 6)[j].2 := by
      simp only [inV, List.getElem?_map, List.getElem?_eq_getElem hlt] at hv
      exact (Option.some.inj hv).symm
    have hp := hns _ (List.mem_of_mem_take (List.getElem_mem hlt))
    subst hv'
    refine wpAny_pure (wpAny_assign_Name ?_)
    refine st_L G₂ (by kernel_rfl) (by kernel_rfl!) (by kernel_rfl) fun h₆ G₃ => ?_
    clear G₁ G₂ G F₄ F₃
    ktn_no "z"
    refine mod_int (by decide) ?_
    have e5 : (ns.take 6)[j].1.fmod 5 = (((ns.take 6)[j].1.toNat % 5 : Nat) : Int) := by
      rw [Int.fmod_eq_emod_of_nonneg _ (by decide)]
      (first | lia | omega)
    rw [e5]
    have hm5 : (ns.take 6)[j].1.toNat % 5 ≤ 4 := by (first | lia | omega)
    have hz : (1000 : Nat) ≤ sizeLine := by decide
    have hl1 := mul_length xS ((ns.take 6)[j].1.toNat % 5)
    rw [show xS.length = 1 by decide] at hl1
    refine str_mul (x := xS) (by decide) (by ktn_no "om") fun t₅ k₅ => ?_
    ktn_no "z"
    refine SB.add (fun t₆ k₆ => ?_) (by have : (Str.ofString ";").length = 1 := by decide
                                        (first | lia | omega))
    have hy : ∀ t, ∃ t', Value.str (Txt.mul xS ((((ns.take 6)[j].1.toNat % 5 : Nat)) : Int) ++ Str.ofString ";") t = Value.str (wordS (((ns.take 6).getD j default).1.toNat % 5)) t' := fun t => ⟨t, by
      rw [List.getD_eq_getElem?_getD, List.getElem?_eq_getElem hlt]; rfl⟩
    exact q _ _ _ (hy _) (G₃.toks _)
  · refine ⟨_, _, _, _, G₃, fun s'' F₇ => ?_⟩
    obtain ⟨h₇, g₇, d₇, k₇, o₇⟩ := s''
    clear G G₁ G₃ F₄ F₃
    ktn_no "z"
    have hN7 := (F₇.nw _ (show (N, lsO (inV ns) k) ∈ _ from .tail _ (.tail _ hN))).1
    have hv6 : (inV ns)[6]? = some (.int (ns[6]'(by ktn_no "om")).1 (ns[6]'(by ktn_no "om")).2) := by simp [List.getElem?_eq_getElem (show 6 < ns.length by (first | lia | omega))]
    have hp6 := hns _ (List.getElem_mem (show 6 < ns.length by (first | lia | omega)))
    refine list_item (k := 6) hN7 (by ktn_no "om") hv6 ?_
    ktn_no "z"
    refine mod_int (by decide) ?_
    have e11 : (ns[6]'(by ktn_no "om")).1.fmod 11 = (((ns[6]'(by ktn_no "om")).1.toNat % 11 : Nat) : Int) := by
      rw [Int.fmod_eq_emod_of_nonneg _ (by decide)]
      (first | lia | omega)
    rw [e11]
    ktn_no "z"
    refine st_newTuple (by simp) ?_
    rw [show (4 : Int) + (((ns[6]'(by ktn_no "om")).1.toNat % 11 : Nat) : Int) = ((4 + (ns[6]'(by ktn_no "om")).1.toNat % 11 : Nat) : Int) by (first | lia | omega)]
    have F₈ := fun t => F₇.push1 (g := g₇) (d := d₇) (tk := k₇) (tupO [.ref D, .int ((4 + (ns[6]'(by ktn_no "om")).1.toNat % 11 : Nat) : Int) t])
    refine assign_LC (F₈ _) HC R.handled ((F₈ _).at 0 rfl) (by kernel_rfl) (by kernel_rfl) (by kernel_rfl) (by kernel_rfl) (by kernel_rfl) (by kernel_rfl) fun h₉ k₉ F₉ => ?_
    obtain ⟨wl, rfl, hwl⟩ : ∃ wl : List (PySem.Str × Tok), ls = strValues wl ∧ wl.map (·.1) = (List.range ls.length).map fun j => wordS (((ns.take 6).getD j default).1.toNat % 5) := strs_of ls _ hv
    have hwl6 : (strValues wl).length = 6 := by rw [hl']; simp; (first | lia | omega)
    rw [hwl6] at hwl
    refine h D wl kd _ ((List.range 6).map fun j => ((ns.take 6).getD j default).1.toNat % 5) ((ns[6]'(by ktn_no "om")).1.toNat % 11) _ (by simp) (fun c hc => ?_) (by rw [hwl, List.map_map]; rfl) (by ktn_no "om") (F₉.sub ((((List.sublist_cons_self _ _)).cons₂ _).cons _))
    (refine x1_2 (List.mem_map.mp hc) ?_; intro j _ eqX2; subst eqX2)
    (first | lia | omega)
end
noncomputable abbrev signsS : PySem.Str := Str.ofString "()\",<x"
theorem Lists.get {xs : List (List Int)} {vs : List Value} {l : List (Addr × Obj)} (h : Lists xs vs l) : ∀ (j : Nat) (x : List Int), xs[j]? = some x → ∃ a y k, vs[j]? = some (.ref a) ∧ (a, lsO (inV y) k) ∈ l ∧ y.map (·.1) = x := by
  induction h with
  | nil => intro j x e; simp at e
  | @snoc xs vs l a y k h0 ih =>
    intro j x e
    by_cases hj : j < xs.length
    · rw [List.getElem?_append_left hj] at e
      (refine x3_3 (ih j x e) ?_; intro a' y' k' h1 h2 h3)
      refine ⟨a', y', k', ?_, List.mem_append_left _ h2, h3⟩
      rw [List.getElem?_append_left (by rw [h0.len]; exact hj)]
      exact h1
    · have hlt := (List.getElem?_eq_some_iff.mp e).1
      simp only [List.length_append, List.length_singleton] at hlt
      have hj' : j = xs.length := by (first | lia | omega)
      subst hj'
      rw [List.getElem?_append_right (Nat.le_refl _), Nat.sub_self] at e
      simp at e
      refine ⟨a, y, k, ?_, by simp, e⟩
      rw [List.getElem?_append_right (by rw [h0.len]; exact Nat.le_refl _), h0.len, Nat.sub_self]
      rfl
section
variable {w : World} {B : Heap} {L : Addr} {m cm : PySem.Str → Option Value} {cl : List (PySem.Str × Addr)} {news rest : List (Addr × Obj)} {s₀ s : Shared} {A : Around} {n : Nat}
theorem word_ok {ws : List (PySem.Str × Tok)} {ks : List Nat} (hw : ws.map (·.1) = ks.map wordS) (hk : ∀ c ∈ ks, c ≤ 4) : (∀ z ∈ ws, Word 59 (e0, z.1)) ∧ ∀ z ∈ ws, z.1.length ≤ 100 := by
  have key : ∀ k, k ≤ 4 → (∃ l : Array Nat, (wordS k).cps = l.push 59) ∧ (wordS k).length ≤ 100 := fun k hk => by
    refine ⟨⟨(Txt.mul xS k).cps, ?_⟩, ?_⟩
    · show (Txt.mul xS k ++ scS).cps = _
      rw [Str.cps_append, show scS.cps = #[59] by decide]
      simp
    · unfold wordS
      rw [Str.length_append]
      have := mul_length xS k
      rw [show xS.length = 1 by decide] at this
      rw [show scS.length = 1 by decide]
      (first | lia | omega)
  constructor
  · intro z hz
    have : z.1 ∈ ks.map wordS := by rw [← hw]; exact List.mem_map_of_mem hz
    (refine x1_2 (List.mem_map.mp this) ?_; intro k hk' e)
    obtain ⟨h1, h2⟩ := key k (hk k hk')
    rw [← e]
    exact ⟨rfl, h1, Nat.le_trans h2 (by decide)⟩
  · intro z hz
    have : z.1 ∈ ks.map wordS := by rw [← hw]; exact List.mem_map_of_mem hz
    (refine x1_2 (List.mem_map.mp this) ?_; intro k hk' e)
    rw [← e]
    exact (key k (hk k hk')).2
theorem law_3 {Q : Flow → Shared → Prop} {W : Addr} {ws : List (PySem.Str × Tok)} {k wd : Nat} {ks : List Nat} {t : Tok} (R : Room (n + 70) A) (F : Fm w B L (envLaw L).cells s₀ m cm rest s) (HC : OwnC B (envLaw L).cells) (hW : (W, lsO (strValues ws) k) ∈ rest)
    (h6 : ks.length = 6) (hk : ∀ c ∈ ks, c ≤ 4) (hws : ws.map (·.1) = ks.map wordS)
    (m1 : m "words" = some (.ref W)) (c1 : cm "width" = some (.int (4 + wd : Nat) t))
    (h : ∀ rl vs l kk t' s', Lists ((List.range 6).map (fun p => rowV (4 + wd : Nat) ((ks.map wordS).drop p))) vs l → Fm w B L (envLaw L).cells s₀ m (upd (upd cm "rows" (.ref rl)) "signs" (.str signsS t')) ((rl, lsO vs kk) :: (l ++ rest)) s' → Q .next s') :
    wpAny (M w) A (exec (lawSt 3) (envLaw L)) Q NoE s := by
  obtain ⟨h₁, g₁, d₁, k₁, o₁⟩ := s
  ktn_no "ast"
  refine Assign_Tuple ?_ rfl rfl
  refine Tuple_ ?_
  refine sp_cons ?_ (by kernel_rfl)
  ktn_no "z"
  have hw := word_ok hws hk
  refine rows_spec (n := n) (R.less (by ktn_no "le")) (F.toks _) hw.1 hw.2 (by have := congrArg List.length hws; simp at this; (first | lia | omega)) hW fun rl vs l kk s' hL F₂ => ?_
  obtain ⟨h₂, g₂, d₂, k₂, o₂⟩ := s'
  clear F
  ktn_no "z"
  refine st_newTuple (by simp) ?_
  rw [hws] at hL
  have F₃ := fun t => F₂.push1 (g := g₂) (d := d₂) (tk := k₂) (tupO [.ref rl, .str signsS t])
  refine assign_CC (F₃ _) HC R.handled ((F₃ _).at 0 rfl) (by kernel_rfl) (by kernel_rfl) (by kernel_rfl) (by kernel_rfl) (by kernel_rfl) (by kernel_rfl) fun h₉ k₉ F₉ => ?_
  exact h rl vs l kk _ _ hL (F₉.drop 1)
end
section
variable {w : World} {B : Heap} {L : Addr} {m cm : PySem.Str → Option Value} {cl : List (PySem.Str × Addr)} {news rest : List (Addr × Obj)} {s₀ s : Shared} {A : Around} {n : Nat}
theorem law_4 {Q : Flow → Shared → Prop} {rl : Addr} {xs : List (List Int)} {vs : List Value} {l : List (Addr × Obj)} {kk : Nat} (R : Room (n + 70) A) (F : Fm w B L (envLaw L).cells s₀ m cm rest s) (HC : OwnC B (envLaw L).cells) (hrl : (rl, lsO vs kk) ∈ rest)
    (hL : Lists xs vs l) (hl : ∀ p ∈ l, p ∈ rest) (hne : ∀ p, p < 6 → ∃ c r, xs[p]? = some (c :: r)) (c1 : cm "rows" = some (.ref rl))
    (h : ∀ D rs k s', rs.map (·.1) = (List.range 6).map (fun p : Nat => (p : Int) + (xs.getD p []).headD 0) → Fm w B L (envLaw L).cells s₀ m (upd cm "reach" (.ref D)) ((D, lsO (inV rs) k) :: rest) s' → Q .next s') :
    wpAny (M w) A (exec (lawSt 4) (envLaw L)) Q NoE s := by
  obtain ⟨h₁, g₁, d₁, k₁, o₁⟩ := s
  ktn_no "ast"
  ktn_no "z"
  refine list_compC (B := B) (L := L) (m := m) (cm := cm) (s₀ := s₀) (by kernel_rfl) (by rfl) (by kernel_rfl) (by kernel_rfl) (by kernel_rfl) (fun _ => rfl) ?_
  ktn_no "z"
  refine range1 F fun r h₄ t' u' v' k₄ F₄ => ?_
  refine iter_range F₄ (by decide) fun I o h₅ ho F₅ => ?_
  clear F F₄
  refine ⟨_, F₅, fun D C s₃ s₄ _ F₆ G => ?_⟩
  have G₁ := G.perm (news' := (I, o) :: (D, lsO [] 0) :: rest) (by ktn_no "perm_tac")
  refine comp_simple (steps_range I 0 1 6) (self_range I 0 1 6) rfl rfl R.handled (by decide) (fun j v => ∃ t, v = .int ((j : Int) + (xs.getD j []).headD 0) t) ho G₁ (fun _ _ _ _ _ _ => trivial) (fun j v m0 l1 k0 o0 s0 K hj hv G₂ q => ?_) (fun m₅ ls kd s' hl' hv G₃ => ?_)
  · obtain ⟨ti, rfl⟩ := hv
    obtain ⟨h, g, d, tk, os⟩ := s0
    rw [show (0 : Int) + (j : Int) * 1 = (j : Int) by (first | lia | omega)]
    refine wpAny_pure (wpAny_assign_Name ?_)
    refine st_L G₂ (by kernel_rfl) (by kernel_rfl!) (by kernel_rfl) fun h₆ G₃ => ?_
    clear G₁ G₂ G F₅ F₆
    (refine x2_1 (hne j hj) ?_; intro c r hx)
    (refine x3_3 (hL.get j _ hx) ?_; intro a y ka hva hal hy)
    have g1 : h₆.get? rl = some (lsO vs kk) := (G₃.nw _ (.tail _ (.tail _ hrl))).1
    have g2 : h₆.get? a = some (lsO (inV y) ka) := (G₃.nw _ (.tail _ (.tail _ (hl _ hal)))).1
    ktn_no "z"
    refine list_item g1 (by ktn_no "om") hva ?_
    ktn_no "z"
    have hv0 : ∃ t0, (inV y)[0]? = some (.int c t0) := by
      cases y with
      | nil => simp at hy
      | cons b y => simp at hy; exact ⟨b.2, by rw [← hy.1]; rfl⟩
    obtain ⟨t0, hv0⟩ := hv0
    refine list_item (k := 0) g2 (by decide) hv0 ?_
    ktn_no "z"
    have hy' : ∀ t, ∃ t', Value.int ((j : Int) + c) t = Value.int ((j : Int) + (xs.getD j []).headD 0) t' := fun t => ⟨t, by
      rw [List.getD_eq_getElem?_getD, hx]; rfl⟩
    exact q _ _ _ (hy' _) (G₃.toks _)
  · refine ⟨_, _, _, _, G₃, fun s'' F₇ => ?_⟩
    obtain ⟨h₇, g₇, d₇, k₇, o₇⟩ := s''
    (refine x1_2 (ints_of ls _ hv) ?_; intro yl eqX1 hy; subst eqX1)
    clear G G₁ G₃ F₅ F₆
    ktn_no "z"
    rename_i h₈ F₈
    refine h D yl kd _ ?_ F₈
    rw [hy, hl']
end
/-- the cells' contents without one name -/
noncomputable def less1 (x : PySem.Str) (cm : PySem.Str → Option Value) : PySem.Str → Option Value := fun y => if y = x then none else cm y
section
variable {w : World} {B : Heap} {L : Addr} {m : PySem.Str → Option Value} {cl : List (PySem.Str × Addr)} {cm : PySem.Str → Option Value} {news : List (Addr × Obj)} {s₀ s : Shared} {A : Around} {E : Value → Shared → Prop}
theorem lookup_cons1 {x n : PySem.Str} {c c' : Addr} {cl' : List (PySem.Str × Addr)} (e : ((x, c) :: cl').lookup n = some c') : (n = x ∧ c' = c) ∨ (n ≠ x ∧ cl'.lookup n = some c') := by
  rw [List.lookup_cons] at e
  cases hb : n == x with
  | true => rw [hb] at e; simp only at e; exact .inl ⟨beq_iff_eq.mp hb, (Option.some.inj e).symm⟩
  | false => rw [hb] at e; simp only at e; exact .inr ⟨(fun q => by rw [q, beq_self_eq_true] at hb; cases hb), e⟩
theorem lc_frame1 {x : PySem.Str} {scope : Scope} {env : Env} {cl' : List (PySem.Str × Addr)} {P : Env → Shared → Prop} (F : Fm w B L cl s₀ m cm news s)
    (hone : ∀ z acc, cellsFrom z scope.names acc = (x, z) :: acc) (hpush : ∀ h, pushCells h scope.names = h.push { cls := .type "cell", data := .cell none })
    (hcl : ∀ n c, cl'.lookup n = some c → cl.lookup n = some c)
    (h : ∀ C c s₁, s₁.heap.objs.size > s.heap.objs.size → Fm w (under s news) C ((x, c) :: cl') s (fun _ => none) (less1 x cm) news s₁ → (under s news).get? c = none → szTop ≤ c → P (newEnv scope C env.globals ((x, c) :: cl') env.qual none .none (some env) builtinsNs) s₁) :
    wpAny (M w) A (newFunctionEnv scope env.globals cl' [] env.qual none .none (some env)) P E s := by
  simp only [newFunctionEnv]
  refine wpAny_bind (wpAny_alloc ?_)
  refine wpAny_bind (wpAny_layCells _ (fun name kind cells => by cases hkc : kind == NameKind.cell <;> simp [hkc]) _ _ _ _ ?_)
  simp only [hone, hpush, Heap.size_push]
  refine wpAny_bind ?_
  rw [List.forIn_nil]
  refine wpAny_pure (wpAny_pure ?_)
  have hz : szTop ≤ s.heap.objs.size := Nat.le_trans F.szL (Nat.le_of_lt F.ns.lt)
  have hk : ∀ b o, s.heap.get? b = some o → ((s.heap.push { cls := .type (if (some env).isSome then "dict" else "frame"), data := .dict #[] }).push { cls := .type "cell", data := .cell none }).get? b = some o := fun b o e => Heap.get?_push_of_some _ (Heap.get?_push_of_some _ e)
  have hns : ((s.heap.push { cls := .type (if (some env).isSome then "dict" else "frame"), data := .dict #[] }).push { cls := .type "cell", data := .cell none }).Ns s.heap.objs.size fun _ => none := (Heap.Ns.new s.heap _).keeps fun b o e => Heap.get?_push_of_some _ e
  have hcc : ((s.heap.push { cls := .type (if (some env).isSome then "dict" else "frame"), data := .dict #[] }).push { cls := .type "cell", data := .cell none }).IsCell (s.heap.objs.size + 1) none := by
    have e : (s.heap.push { cls := .type (if (some env).isSome then "dict" else "frame"), data := .dict #[] }).objs.size = s.heap.objs.size + 1 := Heap.size_push ..
    exact ⟨{ cls := .type "cell", data := .cell none }, by rw [← e]; exact Heap.get?_push_size _ rfl, rfl⟩
  have old : ∀ n c, cl'.lookup n = some c → c < s.heap.objs.size := fun n c e => by
    (refine x1_2 (F.ce n c (hcl n c e)) ?_; intro oc hoc _)
    exact Heap.lt_size hoc
  refine h s.heap.objs.size (s.heap.objs.size + 1) _ ?_ (F.enter (tk := s.toks) rfl hns hk ?_ (fun n c e => ?_) (fun n c e => ?_) fun n n' c e e' => ?_) ?_ (Nat.le_succ_of_le hz)
  · show (Heap.push _ _).objs.size > _
    rw [Heap.size_push, Heap.size_push]; (first | lia | omega)
  · rw [Heap.size_push, Heap.size_push]; (first | lia | omega)
  · rcases lookup_cons1 e with ⟨rfl, rfl⟩ | ⟨hn, e⟩
    · unfold less1; rw [if_pos rfl]; exact hcc
    · unfold less1; rw [if_neg hn]; exact (F.ce n c (hcl n c e)).keeps hk
  · rcases lookup_cons1 e with ⟨rfl, rfl⟩ | ⟨hn, e⟩
    · refine ⟨Nat.succ_ne_self _, fun q => ?_, fun t => absurd (tab_lt t) (Nat.not_lt.mpr (Nat.le_succ_of_le hz))⟩
      (refine x1_2 (List.mem_map.mp q) ?_; intro p hp e')
      have := Heap.lt_size (F.nw p hp).1
      rw [e'] at this
      exact absurd this (Nat.not_lt.mpr (Nat.le_succ _))
    · (refine x0_3 (F.cd n c (hcl n c e)) ?_; intro a b c')
      exact ⟨Nat.ne_of_lt (old n c e), b, c'⟩
  · rcases lookup_cons1 e with ⟨q1, q2⟩ | ⟨_, e1⟩ <;> rcases lookup_cons1 e' with ⟨q3, q4⟩ | ⟨_, e2⟩
    · rw [q1, q3]
    · exact absurd (old _ _ e2) (by rw [q2]; exact Nat.not_lt.mpr (Nat.le_succ _))
    · exact absurd (old _ _ e1) (by rw [q4]; exact Nat.not_lt.mpr (Nat.le_succ _))
    · exact F.cp n n' c (hcl _ _ e1) (hcl _ _ e2)
  · cases q : (under s news).get? (s.heap.objs.size + 1) with
    | none => rfl
    | some o => exact absurd (Heap.lt_size q) (by show ¬ _ < (hideAll s.heap _).objs.size; rw [hideAll_size]; (first | lia | omega))
variable {elt target iter : Expr} {ifs : List Expr} {rest : List Comprehension} {scope : Scope} {pos py spos : Pos} {env : Env} {x y : PySem.Str}
/-- a list comprehension with one cell of its own -/
theorem list_comp1 {Q : Value → Shared → Prop} (hk : captOk scope env.cells = true) (hLc : env.cells = cl) (hone : ∀ z acc, cellsFrom z scope.names acc = (x, z) :: acc) (hpush : ∀ h, pushCells h scope.names = h.push { cls := .type "cell", data := .cell none }) (hkind : scope.kind = .function)
    (hnames : (scope.names.all fun x => decide (x.2 = .local → scope.names.lookup x.1 = some .local)) = true) (hs : ∀ x, foldedSetIterable iter env x = pure x)
    (h : wpAny (M w) A (eval iter env) (fun x' s₁ => wpAny (M w) A (pyIter x') (fun it s₂ => ∃ news, Fm w B L cl s₀ m cm news s₂ ∧
      ∀ D C c s₃ s₄, s₃.heap.objs.size > D → Fm w B L cl s₀ m cm ((D, lsO [] 0) :: news) s₃ → Fm w (under s₃ ((D, lsO [] 0) :: news)) C ((x, c) :: capt scope env.cells) s₃ (fun _ => none) (less1 x cm) ((D, lsO [] 0) :: news) s₄ →
        (under s₃ ((D, lsO [] 0) :: news)).get? c = none → szTop ≤ c →
        CompS w A (.ListComp elt (⟨target, iter, ifs, 0⟩ :: rest) scope pos) 0 it (.ref D) (compEnvC scope ((x, c) :: capt scope env.cells) C env) (LcB w B L m cl cm ((D, lsO [] 0) :: news) s₀ s₃ C (Q (.ref D))) s₄) NoE s₁) NoE s) :
    wpAny (M w) A (eval (.ListComp elt (⟨target, iter, ifs, 0⟩ :: rest) scope pos) env) Q NoE s := by
  rw [eval_ListComp]
  refine wpAny_comprehension_free (use := none) rfl hs (capt_clos hk) hkind (fun x hx => of_decide_eq_true (List.all_eq_true.mp hnames x hx)) (wpAny_mono h (fun xv s₁ h₁ => wpAny_mono h₁ (fun it s₂ h₂ => ?_) fun _ _ e => e) fun _ _ e => e)
  (refine x1_2 (h₂) ?_; try clear h₂; intro news F k)
  have F' := F.push (lsO [] 0) (tk := s₂.toks)
  refine wpAny_newObj_type ?_
  refine lc_frame1 (env := env) F' hone hpush (by subst hLc; exact capt_sub hk) fun C c s₄ hz G hn hc => ?_
  refine codeAny_mono (k _ C c _ s₄ (by show _ > _; rw [Heap.size_push]; exact Nat.lt_succ_self _) F' G hn hc) fun r s' hr => ?_
  cases r with
  | error x => exact hr.elim
  | ok f => exact hr.out F'
theorem list_comp1_to {Q : Flow → Shared → Prop} (hsw : swapsWith (.ListComp elt (⟨target, iter, ifs, 0⟩ :: rest) scope pos) (some (.Name y py)) spos.line env = pure true)
    (hkc : captOk scope env.cells = true) (hLc : env.cells = cl) (hone : ∀ z acc, cellsFrom z scope.names acc = (x, z) :: acc) (hpush : ∀ h, pushCells h scope.names = h.push { cls := .type "cell", data := .cell none }) (hkind : scope.kind = .function)
    (hnames : (scope.names.all fun x => decide (x.2 = .local → scope.names.lookup x.1 = some .local)) = true) (hs : ∀ x, foldedSetIterable iter env x = pure x)
    (hk : env.scope.kind = .function) (hy : env.kindOf y = some .local) (hL : env.locals = L)
    (h : wpAny (M w) A (eval iter env) (fun x' s₁ => wpAny (M w) A (pyIter x') (fun it s₂ => ∃ news, Fm w B L cl s₀ m cm news s₂ ∧
      ∀ D C c s₃ s₄, s₃.heap.objs.size > D → Fm w B L cl s₀ m cm ((D, lsO [] 0) :: news) s₃ → Fm w (under s₃ ((D, lsO [] 0) :: news)) C ((x, c) :: capt scope env.cells) s₃ (fun _ => none) (less1 x cm) ((D, lsO [] 0) :: news) s₄ →
        (under s₃ ((D, lsO [] 0) :: news)).get? c = none → szTop ≤ c →
        CompS w A (.ListComp elt (⟨target, iter, ifs, 0⟩ :: rest) scope pos) 0 it (.ref D) (compEnvC scope ((x, c) :: capt scope env.cells) C env) (fun s₅ => ∃ m' cl' cm' news', Fm w (under s₃ ((D, lsO [] 0) :: news)) C cl' s₃ m' cm' news' s₅ ∧ ∀ s'', Fm w B L cl s₀ (upd m y (.ref D)) cm news' s'' → Q .next s'') s₄) NoE s₁) NoE s) :
    wpAny (M w) A (exec (.Assign [.Name y py] (.ListComp elt (⟨target, iter, ifs, 0⟩ :: rest) scope pos) spos) env) Q NoE s := by
  rw [exec_Assign_Name_used _ _ _ _ hsw]
  refine wpAny_bind (wpAny_standAt (wpAny_bind ?_))
  show wpAny _ A (do let _ ← comprehension (.ListComp elt (⟨target, iter, ifs, 0⟩ :: rest) scope pos) scope env _ (newList []) false (eval iter env) (some (assign (.Name y py) env))) _ _ s
  refine wpAny_bind (wpAny_mono (wpAny_comprehension_free (use := some (assign (.Name y py) env)) (Q := fun _ s' => Q .next s') rfl hs (capt_clos hkc) hkind (fun x hx => of_decide_eq_true (List.all_eq_true.mp hnames x hx))
    (wpAny_mono h (fun xv s₁ h₁ => wpAny_mono h₁ (fun it s₂ h₂ => ?_) fun _ _ e => e) fun _ _ e => e)) (fun _ s' hq => wpAny_pure (wpAny_pure hq)) fun _ _ e => e)
  (refine x1_2 (h₂) ?_; try clear h₂; intro news F k)
  have F' := F.push (lsO [] 0) (tk := s₂.toks)
  refine wpAny_newObj_type ?_
  refine lc_frame1 (env := env) F' hone hpush (by subst hLc; exact capt_sub hkc) fun C c s₄ hz G hn hc => ?_
  refine codeAny_mono (k _ C c _ s₄ (by show _ > _; rw [Heap.size_push]; exact Nat.lt_succ_self _) F' G hn hc) fun r s' hr => ?_
  cases r with
  | error x => exact hr.elim
  | ok f =>
    (refine x4_2 (hr) ?_; try clear hr; intro m' cl₁ cm' news' G' kk)
    (refine x1_2 (F'.leaveC G') ?_; intro oC hN H)
    show wpAny _ A (assign (.Name y py) env (.ref s₂.heap.objs.size)) _ _ _
    obtain ⟨h', g', d', tk', os'⟩ := s'
    refine wpAny_assign_Name (st_L H hk hy hL fun h₂ H₂ => ?_)
    refine ⟨m', hN.at (H₂.at 0 rfl), fun h'' hs'' => kk _ (H₂.lose (tk := tk' + 1) fun b ob hb e => (hs''.2 b hb).trans e)⟩
end
/-- all objects of a heap but one -/
noncomputable def allBut (h : Heap) (L : Addr) : List (Addr × Obj) := (List.range h.objs.size).filterMap fun a => if a = L then none else (h.get? a).map fun o => (a, o)
theorem mem_allBut {h : Heap} {L : Addr} {p : Addr × Obj} : p ∈ allBut h L ↔ p.1 ≠ L ∧ h.get? p.1 = some p.2 := by
  obtain ⟨a, o⟩ := p
  unfold allBut
  rw [List.mem_filterMap]
  constructor
  · rintro ⟨b, _, e⟩
    split at e
    · cases e
    · rename_i hb
      cases q : h.get? b with
      | none => rw [q] at e; cases e
      | some o' => rw [q] at e; cases e; exact ⟨hb, q⟩
  · rintro ⟨h1, h2⟩
    exact ⟨a, List.mem_range.mpr (Heap.lt_size h2), by rw [if_neg h1]; show (h.get? a).map _ = _; rw [h2]; rfl⟩
theorem empty_get (b : Addr) : ({} : Heap).get? b = none := by
  cases q : ({} : Heap).get? b with
  | none => rfl
  | some o => exact absurd (Heap.lt_size q) (Nat.not_lt_zero _)
section
variable {w : World} {B : Heap} {L : Addr} {m : PySem.Str → Option Value} {cl : List (PySem.Str × Addr)} {cm : PySem.Str → Option Value} {news : List (Addr × Obj)} {s₀ s : Shared} {A : Around}
  {h : Heap} {g : Array GenState} {d d₀ : Drawn} {tk tk₀ : Nat} {os : OsState}
theorem Fm.fr (F : Fm w B L cl s₀ m cm news s) : Fr {} L s.heap m := ⟨F.ns, (fun b o e => by rw [empty_get] at e; cases e), Nat.zero_le _⟩
theorem Fm.nws (_ : Fm w B L cl s₀ m cm news s) : PyProof.Rows.News {} L s.heap (allBut s.heap L) := fun p hp => ⟨(mem_allBut.mp hp).2, (mem_allBut.mp hp).1, empty_get _⟩
/-- a rule over frames and news, used on a frame of ours -/
theorem Fm.back {h' : Heap} {all : List (Addr × Obj)} (F : Fm w B L cl s₀ m cm news ⟨h, g, d₀, tk₀, os⟩) (F' : Fr {} L h' m) (N : PyProof.Rows.News {} L h' all) (hs : ∀ p ∈ allBut h L, p ∈ all) : Fm w B L cl s₀ m cm news ⟨h', g, d, tk, os⟩ := by
  have k : ∀ b o, b ≠ L → h.get? b = some o → h'.get? b = some o := fun b o hb e => (N (b, o) (hs _ (mem_allBut.mpr ⟨hb, e⟩))).1
  have bL : ∀ b o, B.get? b = some o → b ≠ L := fun b o e q => by rw [q, F.above.1] at e; cases e
  have tL : ∀ t, t < szTop → t ≠ L := fun t ht e => absurd F.szL (Nat.not_le.mpr (e ▸ ht))
  have eb : Heap.ExtBut L h h' := k
  have tb : TabOk h' := by
    (refine x1_2 (F.tb.a) ?_; intro ps a1 a2)
    (refine x1_2 (F.tb.b) ?_; intro qs b1 b2)
    exact ⟨⟨ps, a1.extBut eb (tL _ (by decide)) (tL _ (by decide)), a2.extBut eb (tL _ (by decide)) (tL _ (by decide))⟩,
      ⟨qs, b1.extBut eb (tL _ (by decide)) (tL _ (by decide)), b2.extBut eb (tL _ (by decide)) (tL _ (by decide))⟩⟩
  exact {
    wf := F.wf
    ns := F'.ns
    keep := fun b o e => k b o (bL b o e) (F.keep b o e)
    above := F.above
    nw := fun p hp => let ⟨a, b, c⟩ := F.nw p hp; ⟨k _ _ b a, b, c⟩
    nd := F.nd
    ce := fun n c e => by
      (refine x1_2 (F.ce n c e) ?_; intro o ho hd)
      exact ⟨o, k _ _ (F.cd n c e).1 ho, hd⟩
    cd := F.cd
    cp := F.cp
    tb := tb
    rl := ⟨F.rl.os, F.rl.gens, F.rl.bare, fun t ht ps e => by
      obtain ⟨mo, e'⟩ := F.rl.tg t ht ps e
      exact ⟨mo, k _ _ (tL t (tab_lt ht)) e'⟩, trivial⟩ }
theorem foldl_max_le (l : List Int) : ∀ a : Int, a ≤ l.foldl max a ∧ ∀ x ∈ l, x ≤ l.foldl max a := by
  induction l with
  | nil => intro a; exact ⟨Int.le_refl _, fun x h => by simp at h⟩
  | cons b l ih =>
    intro a
    obtain ⟨h1, h2⟩ := ih (max a b)
    rw [List.foldl_cons]
    refine ⟨by (first | lia | omega), fun x hx => ?_⟩
    rcases List.mem_cons.mp hx with rfl | hx
    · (first | lia | omega)
    · exact h2 x hx
theorem foldl_max_mem (l : List Int) : ∀ a : Int, l.foldl max a = a ∨ l.foldl max a ∈ l := by
  induction l with
  | nil => intro a; exact .inl rfl
  | cons b l ih =>
    intro a
    rw [List.foldl_cons]
    rcases ih (max a b) with h | h
    · rw [h]
      rcases Int.le_total a b with q | q
      · rw [Int.max_eq_right q]; exact .inr (.head _)
      · rw [Int.max_eq_left q]; exact .inl rfl
    · exact .inr (.tail _ h)
theorem foldl_max_is {a M : Int} {l : List Int} (h1 : M ∈ a :: l) (h2 : ∀ x ∈ a :: l, x ≤ M) : M = l.foldl max a := by
  obtain ⟨h3, h4⟩ := foldl_max_le l a
  have h5 : l.foldl max a ∈ a :: l := by
    rcases foldl_max_mem l a with e | e
    · rw [e]; exact .head _
    · exact .tail _ e
  have := h2 _ h5
  rcases List.mem_cons.mp h1 with rfl | h1
  · (first | lia | omega)
  · have := h4 _ h1; (first | lia | omega)
theorem max_ints {l : Addr} {xs : List (Int × Tok)} {a : Int} {ns : List Int} {Q : Value → Shared → Prop} {E : Value → Shared → Prop} (F : Fm w B L cl s₀ m cm news ⟨h, g, d₀, tk₀, os⟩) (hh : A.handled = none) (hl : h.IsList l (inV xs).toArray) (hx : xs.map (·.1) = a :: ns)
    (q : ∀ t h' tk', Fm w B L cl s₀ m cm news ⟨h', g, d, tk', os⟩ → Q (.int (ns.foldl max a) t) ⟨h', g, d, tk', os⟩) : wpAny (M w) A (call (.builtin "max") [.ref l]) Q E ⟨h, g, d, tk, os⟩ := by
  refine max_list_N (s := ⟨h, g, d, tk, os⟩) (h₀ := {}) (L := L) (m := m) (news := allBut h L) hh (Fm.fr (F.withD (d := d) (tk := tk))) (Fm.nws (F.withD (d := d) (tk := tk))) hl (intsAre xs) (by rw [hx]; exact Nat.succ_pos _) fun h' M t tk' F' N' h1 h2 => ?_
  rw [hx] at h1 h2
  rw [foldl_max_is h1 h2]
  exact q _ _ _ (F.back F' N' fun p hp => hp)
theorem add_list {l b : Addr} {vs ws : List Value} {k1 k2 : Nat} {Q : Value → Shared → Prop} {E : Value → Shared → Prop} (F : Fm w B L cl s₀ m cm news ⟨h, g, d₀, tk₀, os⟩) (hl : h.get? l = some (lsO vs k1)) (hb : h.get? b = some (lsO ws k2)) (hsz : vs.length + ws.length ≤ 100000)
    (q : ∀ D h', Fm w B L cl s₀ m cm ((D, lsO (vs ++ ws) 0) :: news) ⟨h', g, d, tk, os⟩ → Q (.ref D) ⟨h', g, d, tk, os⟩) : wpAny (M w) A (binaryOp .Add (.ref l) (.ref b)) Q E ⟨h, g, d, tk, os⟩ := by
  refine add_lists (s := ⟨h, g, d, tk, os⟩) (h₀ := {}) (L := L) (m := m) (news := allBut h L) (Fm.fr (F.withD (d := d) (tk := tk))) (Fm.nws (F.withD (d := d) (tk := tk))) (isL hl) (isL hb) (fun h' F' N' => ?_) (Nat.le_trans hsz (show (100000 : Nat) ≤ sizeLine by decide))
  (refine x0_5 (Fm.freshC (a := h.objs.size) F (Nat.le_refl _)) ?_; intro a1 a2 a3 a4 a5)
  exact q _ _ (Fm.addC (F.back F' N' fun p hp => .tail _ hp) (N'.get (.head _)) a1 a2 a3 a4 a5)
end
noncomputable def hookOf (rs : List Int) (p : Nat) : Int := (((List.range p).filter fun a => decide (rs.getD a 0 ≤ (p : Int))).map fun a : Nat => (a : Int)).foldl max (-1)
section
variable {w : World} {B : Heap} {L : Addr} {m cm : PySem.Str → Option Value} {cl : List (PySem.Str × Addr)} {news rest : List (Addr × Obj)} {s₀ s : Shared} {A : Around} {n : Nat}
theorem new_list {h : Heap} {g : Array GenState} {d d₀ : Drawn} {tk tk₀ : Nat} {os : OsState} {vs : List Value} {Q : Value → Shared → Prop} {E : Value → Shared → Prop} (F : Fm w B L cl s₀ m cm news ⟨h, g, d₀, tk₀, os⟩) (hz : vs.length ≤ 1000)
    (q : ∀ D h', Fm w B L cl s₀ m cm ((D, lsO vs 0) :: news) ⟨h', g, d, tk, os⟩ → Q (.ref D) ⟨h', g, d, tk, os⟩) : wpAny (M w) A (newList vs) Q E ⟨h, g, d, tk, os⟩ :=
  st_newList hz (q _ _ (F.push1 (g := g) (d := d) (tk := tk) (lsO vs 0)))
theorem law_5 {Q : Flow → Shared → Prop} {rl : Addr} {rs : List (Int × Tok)} {kk : Nat} (R : Room (n + 70) A) (F : Fm w B L (envLaw L).cells s₀ m cm rest s) (hrl : (rl, lsO (inV rs) kk) ∈ rest)
    (hlen : rs.length = 6) (c1 : cm "reach" = some (.ref rl))
    (h : ∀ D hs k s', hs.map (·.1) = (List.range 6).map (hookOf (rs.map (·.1))) → Fm w B L (envLaw L).cells s₀ (upd m "hooks" (.ref D)) cm ((D, lsO (inV hs) k) :: rest) s' → Q .next s') :
    wpAny (M w) A (exec (lawSt 5) (envLaw L)) Q NoE s := by
  obtain ⟨h₁, g₁, d₁, k₁, o₁⟩ := s
  ktn_no "ast"
  refine list_comp1_to (B := B) (L := L) (m := m) (cm := cm) (s₀ := s₀) (x := "place") (by kernel_rfl) (by kernel_rfl) (by rfl) (fun _ _ => rfl) (fun _ => rfl) (by kernel_rfl) (by kernel_rfl) (fun _ => rfl) (by kernel_rfl) (by kernel_rfl) (by kernel_rfl) ?_
  ktn_no "z"
  refine range1 F fun r h₄ t' u' v' k₄ F₄ => ?_
  refine iter_range F₄ (by decide) fun I o h₅ ho F₅ => ?_
  clear F F₄
  refine ⟨_, F₅, fun D C c s₃ s₄ _ F₆ G hcn hcz => ?_⟩
  have G₁ := G.perm (news' := (I, o) :: (D, lsO [] 0) :: rest) (by ktn_no "perm_tac")
  refine comp_all (steps_range I 0 1 6) (self_range I 0 1 6) rfl rfl R.handled (fun i m cm' news => cm' "reach" = some (.ref rl) ∧ ∃ (l : List (Int × Tok)) (k : Nat), news = (D, lsO (inV l) k) :: rest ∧ l.map (·.1) = (List.range i).map (hookOf (rs.map (·.1)))) (fun _ _ _ _ _ _ _ _ => trivial) ho ⟨by unfold less1; rw [if_neg (by decide)]; exact c1, [], 0, rfl, rfl⟩ G₁ ?_ ?_
  · rintro i v m₁ cm₁ news o₁ s₅ K hi ⟨ti, rfl⟩ ⟨c2, l, k, rfl, hl⟩ G₂ q
    obtain ⟨h₅', g₅, d₅, k₅, o₅⟩ := s₅
    rw [show (0 : Int) + (i : Int) * 1 = (i : Int) by (first | lia | omega)]
    refine wpAny_pure (wpAny_assign_Name ?_)
    refine st_C G₂ (by kernel_rfl) (by kernel_rfl!) (by kernel_rfl) (by kernel_rfl) hcn hcz fun h₆ G₃ => ?_
    clear G₁ G₂ G F₆ F₅
    have c3 : upd cm₁ "place" (.int i ti) "place" = some (.int i ti) := rfl
    have c4 : upd cm₁ "place" (.int i ti) "reach" = some (.ref rl) := c2
    revert c3 c4 G₃
    generalize upd cm₁ "place" (.int i ti) = cm₆
    intro G₃ c3 c4
    refine wpAny_tests_nil ?_
    rw [if_pos rfl]
    ktn_no "z"
    refine new_list (vs := inV [(-1, k₅ + 1)]) G₃ (by simp) fun V h₇ G₄ => ?_
    refine list_compC (B := under s₃ ((D, lsO [] 0) :: (I, o) :: rest)) (L := C) (m := m₁) (cm := cm₆) (s₀ := s₃) (by kernel_rfl) (by rfl) (by kernel_rfl) (by kernel_rfl) (by kernel_rfl) (fun _ => rfl) ?_
    clear G₃
    ktn_no "z"
    refine range1 G₄ fun r₂ h₈ t₂ u₂ v₂ k₇ G₅ => ?_
    refine iter_range G₅ (by ktn_no "om") fun J oJ h₉ hoJ G₆ => ?_
    clear G₄ G₅
    refine ⟨_, G₆, fun D₂ C₂ s₆ s₇ _ G₇ X => ?_⟩
    have X₁ := X.perm (news' := (J, oJ) :: (D₂, lsO [] 0) :: (V, lsO (inV [(-1, k₅ + 1)]) 0) :: (I, o₁) :: (D, lsO (inV l) k) :: rest) (by ktn_no "perm_tac")
    have hold : ∀ Y : List (Addr × Obj), (rl, lsO (inV rs) kk) ∈ Y ++ rest := fun Y => List.mem_append_right _ hrl
    refine comp_all (steps_range J 0 1 i) (self_range J 0 1 i) rfl rfl R.handled (fun j m cm' news => cm' = cm₆ ∧ ∃ (l₂ : List (Int × Tok)) (k₂ : Nat), news = (D₂, lsO (inV l₂) k₂) :: (V, lsO (inV [(-1, k₅ + 1)]) 0) :: (I, o₁) :: (D, lsO (inV l) k) :: rest ∧ l₂.length ≤ j ∧
      l₂.map (·.1) = ((List.range j).filter fun a => decide ((rs.map (·.1)).getD a 0 ≤ (i : Int))).map fun a : Nat => (a : Int)) (fun _ _ _ _ _ _ _ _ => trivial) hoJ ⟨rfl, [], 0, rfl, Nat.le_refl _, rfl⟩ X₁ ?_ ?_
    · rintro j v m₂ cm₂ news o₂ s₈ K₂ hj ⟨tj, rfl⟩ ⟨rfl, l₂, k₂, rfl, hl2, hl3⟩ X₂ q₂
      obtain ⟨h₈', g₈, d₈, k₈, o₈⟩ := s₈
      rw [show (0 : Int) + (j : Int) * 1 = (j : Int) by (first | lia | omega)]
      refine wpAny_pure (wpAny_assign_Name ?_)
      refine st_L X₂ (by kernel_rfl) (by kernel_rfl!) (by kernel_rfl) fun h₁₀ X₃ => ?_
      clear X X₁ X₂ G₆ G₇
      have gr : h₁₀.get? rl = some (lsO (inV rs) kk) := (X₃.nw _ (hold [(J, o₂), (D₂, lsO (inV l₂) k₂), (V, lsO (inV [(-1, k₅ + 1)]) 0), (I, o₁), (D, lsO (inV l) k)])).1
      have hv : (inV rs)[j]? = some (.int (rs[j]'(by ktn_no "om")).1 (rs[j]'(by ktn_no "om")).2) := by simp [List.getElem?_eq_getElem (show j < rs.length by (first | lia | omega))]
      have n4 : upd m₂ "ahead" (.int j tj) "ahead" = some (.int j tj) := rfl
      revert n4 X₃
      generalize upd m₂ "ahead" (.int j tj) = m₆
      intro X₃ n4
      refine wpAny_tests_one ?_
      ktn_no "z"
      refine list_item gr (by ktn_no "om") hv ?_
      ktn_no "z"
      have hg : (rs.map (·.1)).getD j 0 = (rs[j]'(by ktn_no "om")).1 := by
        rw [List.getD_eq_getElem?_getD, List.getElem?_map, List.getElem?_eq_getElem (show j < rs.length by (first | lia | omega))]; rfl
      have hfil : ∀ b : Bool, decide ((rs[j]'(by ktn_no "om")).1 ≤ (i : Int)) = b → (List.range (j + 1)).filter (fun a => decide ((rs.map (·.1)).getD a 0 ≤ (i : Int))) = (List.range j).filter (fun a => decide ((rs.map (·.1)).getD a 0 ≤ (i : Int))) ++ (if b = true then [j] else []) := fun b hb => by
        rw [List.range_succ, List.filter_append]
        congr 1
        simp only [List.filter_cons, List.filter_nil, hg, hb]
      cases hb : decide ((rs[j]'(by ktn_no "om")).1 ≤ (i : Int)) with
      | false =>
        rw [if_neg Bool.false_ne_true]
        refine q₂ _ _ _ _ ⟨rfl, l₂, k₂, rfl, by (first | lia | omega), ?_⟩ (X₃.toks _)
        rw [hfil _ hb, if_neg Bool.false_ne_true, List.append_nil]
        exact hl3
      | true =>
        rw [if_pos rfl]
        ktn_no "z"
        refine app_at 1 X₃ rfl (by simp; (first | lia | omega)) fun h₁₁ X₄ => ?_
        dsimp only [List.set] at X₄
        refine q₂ _ _ ((D₂, lsO (inV (l₂ ++ [((j : Int), tj)])) (k₂ + 1)) :: (V, lsO (inV [(-1, k₅ + 1)]) 0) :: (I, o₁) :: (D, lsO (inV l) k) :: rest) _ ⟨rfl, _, _, rfl, by simp; (first | lia | omega), ?_⟩ (by simpa [inV] using X₄)
        rw [hfil _ hb, if_pos rfl, List.map_append, List.map_append, hl3]
        rfl
    · rintro m₂ cm₂ news s₈ ⟨rfl, l₂, k₂, rfl, hl2, hl3⟩ X₂
      refine ⟨_, _, _, _, X₂, fun s'' F₇ => ?_⟩
      obtain ⟨h₇', g₇, d₇, k₇, o₇⟩ := s''
      clear X X₁ X₂ G₆ G₇
      ktn_no "z"
      refine add_list F₇ (F₇.at 1 rfl) (F₇.at 0 rfl) (by simp; (first | lia | omega)) fun S h₈ F₈ => ?_
      clear F₇
      ktn_no "z"
      refine max_ints F₈ R.handled (isL (F₈.at 0 rfl)) (xs := (-1, k₅ + 1) :: l₂) rfl fun t₉ h₉ k₉ F₉ => ?_
      clear F₈
      refine app_at 4 F₉ rfl (by simp; have := congrArg List.length hl; simp at this; (first | lia | omega)) fun h₁₁ F₁₀ => ?_
      dsimp only [List.set] at F₁₀
      replace F₁₀ := F₁₀.drop 3
      dsimp only [List.drop] at F₁₀
      refine q _ _ ((D, lsO (inV (l ++ [(hookOf (rs.map (·.1)) i, t₉)])) (k + 1)) :: rest) _ ⟨c4, _, _, rfl, ?_⟩ (by
        have e : (l₂.map (·.1)).foldl max (-1) = hookOf (rs.map (·.1)) i := by rw [hl3]; rfl
        rw [e] at F₁₀
        have e2 : inV (l ++ [(hookOf (rs.map (·.1)) i, t₉)]) = inV l ++ [.int (hookOf (rs.map (·.1)) i) t₉] := by simp [inV]
        rw [e2]
        exact F₁₀)
      rw [List.map_append, hl, List.range_succ, List.map_append]
      rfl
  · rintro m₁ cm₁ news s₅ ⟨c2, l, k, rfl, hl⟩ G₂
    refine ⟨_, _, _, _, G₂, fun s'' F₇ => ?_⟩
    exact h D l k s'' hl F₇
end
noncomputable def marksL : List PySem.Str := (List.range 6).map fun j => (⟨#[92]⟩ : PySem.Str) ++ ⟨#[signsS.cps.getD j 0]⟩
section
variable {w : World} {B : Heap} {L : Addr} {m cm : PySem.Str → Option Value} {cl : List (PySem.Str × Addr)} {news rest : List (Addr × Obj)} {s₀ s : Shared} {A : Around} {n : Nat}
theorem law_6 {Q : Flow → Shared → Prop} {t : Tok} (R : Room (n + 70) A) (F : Fm w B L (envLaw L).cells s₀ m cm rest s)
    (c1 : cm "signs" = some (.str signsS t))
    (h : ∀ D ms k s', ms.map (·.1) = marksL → Fm w B L (envLaw L).cells s₀ (upd m "marks" (.ref D)) cm ((D, lsO (strValues ms) k) :: rest) s' → Q .next s') :
    wpAny (M w) A (exec (lawSt 6) (envLaw L)) Q NoE s := by
  obtain ⟨h₁, g₁, d₁, k₁, o₁⟩ := s
  ktn_no "ast"
  refine list_comp_toC (B := B) (L := L) (m := m) (cm := cm) (s₀ := s₀) (by kernel_rfl) (by kernel_rfl) (by rfl) (by kernel_rfl) (by kernel_rfl) (by kernel_rfl) (fun _ => rfl) (by kernel_rfl) (by kernel_rfl) (by kernel_rfl) ?_
  ktn_no "z"
  refine wpAny_pyIter_strU ?_
  have hty : strIterType signsS = "str_ascii_iterator" := by
    unfold strIterType; rw [if_pos (by kernel_rfl)]
  rw [hty]
  have F₂ := F.push1 (g := g₁) (d := d₁) (tk := k₁) ⟨.type "str_ascii_iterator", none, .fields #[.str signsS t, .int (0 : Nat) 0], #[]⟩
  refine ⟨_, F₂, fun D C s₃ s₄ _ F₄ G => ?_⟩
  have G₁ := G.perm (news' := (h₁.objs.size, ⟨.type "str_ascii_iterator", none, .fields #[.str signsS t, .int (0 : Nat) 0], #[]⟩) :: (D, lsO [] 0) :: rest) (by ktn_no "perm_tac")
  refine comp_simple (steps_str h₁.objs.size signsS t) (self_str h₁.objs.size signsS t) rfl rfl R.handled (by decide) (fun j v => ∃ t, v = .str ((⟨#[92]⟩ : PySem.Str) ++ ⟨#[signsS.cps.getD j 0]⟩) t) ⟨rfl, rfl⟩ G₁ (fun m l k s o F => trivial) (fun j v m0 l1 k0 o0 s0 K hj hv G₂ q => ?_) (fun m₅ ls kd s' hl' hv G₃ => ?_)
  · obtain ⟨h, g, d, tk, os⟩ := s0
    (refine x2_2 (hv) ?_; try clear hv; intro c tc hc eqX3; subst eqX3)
    have hc' : signsS.cps.getD j 0 = c := by simp [Array.getD_eq_getD_getElem?, hc]
    refine wpAny_pure (wpAny_assign_Name ?_)
    refine st_L G₂ (by kernel_rfl) (by kernel_rfl!) (by kernel_rfl) fun h₆ G₃ => ?_
    clear G₁ G₂ G F₄ F₂ F
    ktn_no "z"
    refine P.chr_of_int (by decide) ?_
    ktn_no "z"
    refine SB.add (fun t₆ k₆ => ?_) (show (1 : Nat) + 1 ≤ sizeLine by decide)
    exact q _ _ _ ⟨_, by rw [hc']; rfl⟩ (G₃.toks _)
  · refine ⟨_, _, _, _, G₃, fun s'' F₇ => ?_⟩
    (refine x1_2 (strs_of ls _ hv) ?_; intro wl eqX1 hwl; subst eqX1)
    refine h D wl kd _ ?_ F₇
    rw [hwl, hl']
    rfl
theorem unpackItems_two {h : Heap} {g : Array GenState} {d : Drawn} {tk : Nat} {os : OsState} {t : Addr} {v1 v2 : Value} {x y : PySem.Str} {Q : List Value → Shared → Prop} {E : Value → Shared → Prop} (hh : A.handled = none) (ht : h.get? t = some (tupO [v1, v2]))
    (hQ : ∀ h', Heap.ExtBut h.objs.size h h' → Q [v1, v2] ⟨h', g, d, tk, os⟩) : wpAny (M w) A (unpackItems (.ref t) [x, y].length none) Q E ⟨h, g, d, tk, os⟩ :=
  unpackItems_tuple (items := #[v1, v2]) (s := ⟨h, g, d, tk, os⟩) hh (tupO_is ht) fun h' he => hQ h' he
theorem law_7 {Q : Flow → Shared → Prop} {ra ha ma : Addr} {rs hs : List (Int × Tok)} {ms : List (PySem.Str × Tok)} {k1 k2 k3 : Nat} (R : Room (n + 70) A) (F : Fm w B L (envLaw L).cells s₀ m cm rest s) (HC : OwnC B (envLaw L).cells)
    (hr : (ra, lsO (inV rs) k1) ∈ rest) (hh : (ha, lsO (inV hs) k2) ∈ rest) (hm : (ma, lsO (strValues ms) k3) ∈ rest) (l0 : rs.length = 6) (l1 : hs.length = 6) (l2 : ms.length = 6) (l3 : ∀ y ∈ ms, y.1.length ≤ 10) (l4 : ∀ o (h : o < hs.length), hs[o].1 < o)
    (c1 : cm "reach" = some (.ref ra)) (m1 : m "hooks" = some (.ref ha)) (m2 : m "marks" = some (.ref ma))
    (h : ∀ t u s', Fm w B L (envLaw L).cells s₀ (upd (upd m "nest" (.str (nestF (hs.map (·.1)) (ms.map (·.1)) 7 (-1)) u)) "queue" (.str (queueF (rs.map (·.1)) (ms.map (·.1))) t)) cm rest s' → Q .next s') :
    wpAny (M w) A (exec (lawSt 7) (envLaw L)) Q NoE s := by
  obtain ⟨h₁, g₁, d₁, k₁, o₁⟩ := s
  ktn_no "ast"
  refine Assign_Tuple_swapped (names := ["queue", "nest"]) ?_ (by kernel_rfl) (by kernel_rfl)
  refine Tuple_ ?_
  refine sp_cons ?_ (by kernel_rfl)
  ktn_no "z"
  refine queue_spec (n := n) (R.less (by ktn_no "le")) (F.toks _) (by ktn_no "om") l2 l3 hr hm fun t s' F₂ => ?_
  obtain ⟨h₂, g₂, d₂, k₂, o₂⟩ := s'
  clear F
  ktn_no "z"
  refine nest_spec (n := n) 7 (R.less (by ktn_no "le")) (F₂.toks _) (by decide) (by decide) (by decide) (by decide) hh hm l1 l2 l3 l4 fun u s' F₃ => ?_
  obtain ⟨h₃, g₃, d₃, k₃, o₃⟩ := s'
  clear F₂
  ktn_no "z"
  refine st_newTuple (by simp) ?_
  have F₄ := F₃.push1 (g := g₃) (d := d₃) (tk := k₃) (tupO [.str (queueF (rs.map (·.1)) (ms.map (·.1))) t, .str (nestF (hs.map (·.1)) (ms.map (·.1)) 7 (-1)) u])
  refine unpackItems_two R.handled (F₄.at 0 rfl) fun h₄ he => ?_
  have F₅ := F₄.keepAll (d := d₃) (tk := k₃) (ext_keep he)
  clear F₃ F₄
  refine assignInOrder_cons (bindName_ (st_L F₅ (by kernel_rfl) (by kernel_rfl) (by kernel_rfl) fun h₅ F₆ => ?_))
  refine assignInOrder_cons (bindName_ (st_L F₆ (by kernel_rfl) (by kernel_rfl) (by kernel_rfl) fun h₆ F₇ => ?_))
  exact assignInOrder_nil (h _ _ _ (F₇.drop 1))
end
section
variable {w : World} {B : Heap} {L : Addr} {m cm : PySem.Str → Option Value} {cl : List (PySem.Str × Addr)} {news rest : List (Addr × Obj)} {s₀ s : Shared} {A : Around} {n : Nat}
theorem law_8 {Q : Flow → Shared → Prop} {x y : PySem.Str} {t u : Tok} (R : Room (n + 70) A) (F : Fm w B L (envLaw L).cells s₀ m cm rest s)
    (m1 : m "queue" = some (.str x t)) (m2 : m "nest" = some (.str y u)) (hx : StripOk x) (hx2 : (stripF x).cps.all (· < 128) = true) (hx3 : checkF x = true) (hy : StripOk y) (hy2 : (stripF y).cps.all (· < 128) = true) (hy3 : checkF y = true)
    (h : ∀ s', Fm w B L (envLaw L).cells s₀ m cm rest s' → Q .next s') :
    wpAny (M w) A (exec (lawSt 8) (envLaw L)) Q NoE s := by
  obtain ⟨h₁, g₁, d₁, k₁, o₁⟩ := s
  ktn_no "ast"
  ktn_no "z"
  refine check_spec (n := n) (R.less (by ktn_no "le")) (F.toks _) hx hx2 fun s' F₂ => ?_
  rw [hx3]
  obtain ⟨h₂, g₂, d₂, k₂, o₂⟩ := s'
  clear F
  ktn_no "z"
  refine wpAny_isNot_self rfl ?_
  refine wpAny_truthy_bool ?_
  rw [if_neg Bool.false_ne_true]
  ktn_no "z"
  refine check_spec (n := n) (R.less (by ktn_no "le")) (F₂.toks _) hy hy2 fun s' F₃ => ?_
  rw [hy3]
  obtain ⟨h₃, g₃, d₃, k₃, o₃⟩ := s'
  clear F₂
  ktn_no "z"
  refine wpAny_isNot_self rfl ?_
  refine wpAny_truthy_bool ?_
  rw [if_neg Bool.false_ne_true]
  ktn_no "z"
  rw [if_neg Bool.false_ne_true]
  ktn_no "z"
  exact h _ F₃
theorem law_9 {Q : Flow → Shared → Prop} {y : PySem.Str} {u : Tok} (R : Room (n + 70) A) (F : Fm w B L (envLaw L).cells s₀ m cm rest s)
    (m2 : m "nest" = some (.str y u)) (hy : MailFine y)
    (h : ∀ D vs l k s', Deep (mailF y) vs l → Fm w B L (envLaw L).cells s₀ (upd m "deep" (.ref D)) cm ((D, lsO vs k) :: (l ++ rest)) s' → Q .next s') :
    wpAny (M w) A (exec (lawSt 9) (envLaw L)) Q NoE s := by
  obtain ⟨h₁, g₁, d₁, k₁, o₁⟩ := s
  ktn_no "ast"
  ktn_no "z"
  refine mail_spec (n := n) (R.less (by ktn_no "le")) (F.toks _) hy fun D vs l k s' hd F₂ => ?_
  obtain ⟨h₂, g₂, d₂, k₂, o₂⟩ := s'
  clear F
  ktn_no "z"
  rename_i h₃ F₃
  exact h _ _ _ _ _ hd F₃
end
theorem Deep.get {xs : List (PySem.Str × Int)} {vs : List Value} {l : List (Addr × Obj)} (h : Deep xs vs l) : ∀ (j : Nat) (y : PySem.Str × Int), xs[j]? = some y → ∃ a t u, vs[j]? = some (.ref a) ∧ (a, tupO [.str y.1 t, .int y.2 u]) ∈ l := by
  induction h with
  | nil => intro j x e; simp at e
  | @snoc xs vs l a y t u h0 ih =>
    intro j x e
    by_cases hj : j < xs.length
    · rw [List.getElem?_append_left hj] at e
      (refine x3_2 (ih j x e) ?_; intro a' t' u' h1 h2)
      refine ⟨a', t', u', ?_, List.mem_append_left _ h2⟩
      rw [List.getElem?_append_left (by rw [h0.len]; exact hj)]
      exact h1
    · have hlt := (List.getElem?_eq_some_iff.mp e).1
      simp only [List.length_append, List.length_singleton] at hlt
      have hj' : j = xs.length := by (first | lia | omega)
      subst hj'
      rw [List.getElem?_append_right (Nat.le_refl _), Nat.sub_self] at e
      simp at e
      subst e
      refine ⟨a, t, u, ?_, by simp⟩
      rw [List.getElem?_append_right (by rw [h0.len]; exact Nat.le_refl _), h0.len, Nat.sub_self]
      rfl
theorem range_map_getD {α β : Type} [Inhabited α] (ys : List α) (f : α → β) : (List.range ys.length).map (fun j => f (ys.getD j default)) = ys.map f := by
  refine List.ext_getElem (by simp) fun i h1 h2 => ?_
  simp [List.getD_eq_getElem?_getD, List.getElem?_eq_getElem (show i < ys.length by simpa using h2)]
section
variable {w : World} {B : Heap} {C I D : Addr} {cl : List (PySem.Str × Addr)} {cm : PySem.Str → Option Value} {s₀ : Shared} {A : Around} {n : Nat} {P : Nat → Value → Prop} {Ob : Nat → Obj → Prop} {Sd : Heap → Prop}
  {elt target iter : Expr} {ifs : List Expr} {gens : List Comprehension} {scope : Scope} {pos : Pos} {acc : Value} {d : Nat} {env : Env} {Q : Shared → Prop}
theorem comp_runO (S : Steps w I n P Ob Sd) (hg : gens[d]? = some ⟨target, iter, ifs, 0⟩) (hn : gens[d + 1]? = none) (hh : A.handled = none)
    (Inv : Nat → (PySem.Str → Option Value) → (PySem.Str → Option Value) → List (Addr × Obj) → Prop)
    (hSd : ∀ i m cm news s o, Inv i m cm news → Fm w B C cl s₀ m cm ((I, o) :: news) s → Sd s.heap)
    (body : ∀ i v m cm news o s (K : Shared → Prop), i < n → P i v → Ob (i + 1) o → Inv i m cm news → Fm w B C cl s₀ m cm ((I, o) :: news) s →
      (∀ m' cm' news' s', Inv (i + 1) m' cm' news' → Fm w B C cl s₀ m' cm' ((I, o) :: news') s' → K s') →
      wpAny (M w) A (letOwnedTupleGo target (.ref I) v) (fun _ s₁' => wpAny (M w) A (assign target env v) (fun _ s₂ => wpAny (M w) A (ifsOk env ifs) (fun ok s₃ =>
          if ok = true then wpAny (M w) A (eval elt env) (fun y s₄ => wpAny (M w) A (call (.builtin "list.append") [acc, y]) (fun _ s₅ => K s₅) NoE s₄) NoE s₃
          else K s₃) NoE s₂) NoE s₁') NoE s) :
    ∀ (k i : Nat) (m cm : PySem.Str → Option Value) (news : List (Addr × Obj)) (o : Obj) (s : Shared), i + k = n → Ob i o → Inv i m cm news → Fm w B C cl s₀ m cm ((I, o) :: news) s →
      (∀ m' cm' news' s', Inv n m' cm' news' → Fm w B C cl s₀ m' cm' news' s' → Q s') → CompC w A (.ListComp elt gens scope pos) d (.ref I) acc env Q s
  | 0, i, m, cm, news, o, s, hi, ho, hv, F, hq => by
    refine comp_step hg hn ?_
    have hs := hSd _ _ _ _ _ _ hv F
    obtain ⟨h, g, dd, tk, os⟩ := s
    refine F.endI S hh (by ktn_no "om") ho hs fun h' tk' F' => ?_
    exact hq _ _ _ _ (by rw [← hi]; exact hv) F'
  | k + 1, i, m, cm, news, o, s, hi, ho, hv, F, hq => by
    refine comp_step hg hn ?_
    have hs := hSd _ _ _ _ _ _ hv F
    obtain ⟨h, g, dd, tk, os⟩ := s
    refine F.nextI S (by ktn_no "om") ho hs fun v h' tk' o' hP ho' F' => ?_
    refine body i v m cm news o' _ _ (by ktn_no "om") hP ho' hv F' fun m' cm' news' s' hv' F'' => ?_
    exact comp_runO S hg hn hh Inv hSd body k (i + 1) m' cm' news' o' s' (by ktn_no "om") ho' hv' F'' hq
theorem comp_simpleO (S : Steps w I n P Ob Sd) (self : SelfI w I Ob) (hg : gens[d]? = some ⟨target, iter, [], 0⟩) (hn : gens[d + 1]? = none) (hh : A.handled = none) (hsz : n ≤ 100000) (R : Nat → Value → Prop)
    {m cm : PySem.Str → Option Value} {rest : List (Addr × Obj)} {k₀ : Nat} {o : Obj} {s : Shared} (ho : Ob 0 o) (F : Fm w B C cl s₀ m cm ((I, o) :: (D, lsO [] k₀) :: rest) s)
    (hSd : ∀ m l k s o, Fm w B C cl s₀ m cm ((I, o) :: (D, lsO l k) :: rest) s → Sd s.heap)
    (body : ∀ i v m l k o s (K : Value → Shared → Prop), i < n → P i v → Ob (i + 1) o → Fm w B C cl s₀ m cm ((I, o) :: (D, lsO l k) :: rest) s →
      (∀ y m' s', R i y → Fm w B C cl s₀ m' cm ((I, o) :: (D, lsO l k) :: rest) s' → K y s') →
      wpAny (M w) A (letOwnedTupleGo target (.ref I) v) (fun _ s₁' => wpAny (M w) A (assign target env v) (fun _ s₂ => wpAny (M w) A (eval elt env) K NoE s₂) NoE s₁') NoE s)
    (hq : ∀ m' l k s', l.length = n → (∀ j y, l[j]? = some y → R j y) → Fm w B C cl s₀ m' cm ((D, lsO l k) :: rest) s' → Q s') : CompS w A (.ListComp elt gens scope pos) d (.ref I) (.ref D) env Q s := by
  have run := comp_runO (acc := .ref D) (scope := scope) (pos := pos) (elt := elt) (env := env) (cl := cl) (B := B) (C := C) (s₀ := s₀) (Q := Q) S hg hn hh (fun i m cm' news => cm' = cm ∧ ∃ l k, news = (D, lsO l k) :: rest ∧ l.length = i ∧ ∀ j y, l[j]? = some y → R j y) ?_ ?_ n 0 m cm ((D, lsO [] k₀) :: rest) o s (by ktn_no "om") ho ⟨rfl, [], _, rfl, rfl, fun j y e => by simp at e⟩ F ?_
  · exact comp_start hg run (self A o s _ ho (F.at 0 rfl) run)
  · rintro i m cm' news s o ⟨rfl, l, k, rfl, _⟩ F
    exact hSd _ _ _ _ _ F
  · rintro i v m cm' news o s K hi hP hO ⟨rfl, l, k, rfl, hl, hR⟩ F q
    refine wpAny_mono (body i v m l k o s _ hi hP hO F fun y m' s' hy F' => ?_) (fun _ s₁ h₁ => wpAny_mono h₁ (fun _ s₂ h₂ => wpAny_tests_nil (by rw [if_pos rfl]; exact h₂)) fun _ _ z => z) fun _ _ z => z
    obtain ⟨h, g, dd, tk, os⟩ := s'
    refine app_at 1 F' rfl (by ktn_no "om") fun h' F'' => q _ _ _ _ ⟨rfl, l ++ [y], _, rfl, by simp [hl], fun j z e => ?_⟩ F''
    by_cases hj : j < l.length
    · rw [List.getElem?_append_left hj] at e; exact hR j z e
    · rw [List.getElem?_append_right (by ktn_no "om")] at e
      have : j - l.length = 0 := by
        have := (List.getElem?_eq_some_iff.mp e).1
        simp at this; (first | lia | omega)
      rw [this] at e
      have hji : j = i := by (first | lia | omega)
      subst hji
      cases e; exact hy
  · rintro m' cm' news' s' ⟨rfl, l, k, rfl, hl, hR⟩ F'
    exact hq _ _ _ _ hl hR F'
end
section
variable {w : World} {B : Heap} {L : Addr} {m cm : PySem.Str → Option Value} {cl : List (PySem.Str × Addr)} {news rest : List (Addr × Obj)} {s₀ s : Shared} {A : Around} {n : Nat}
theorem list_go {I x T : Addr} {i : Nat} {elts : List Expr} {k : Nat} {pos : Pos} {Q : Unit → Shared → Prop} {E : Value → Shared → Prop} (e : s.heap.get? I = some (itO x i)) (q : Q () s) :
    wpAny (M w) A (letOwnedTupleGo (.Tuple elts k pos) (.ref I) (.ref T)) Q E s := by
  unfold letOwnedTupleGo
  refine wpAny_bind (wpAny_load e ?_)
  dsimp only
  rw [if_neg (by simp)]
  exact wpAny_pure q
theorem law_10 {Q : Flow → Shared → Prop} {ys : List (PySem.Str × Int)} {D : Addr} {vs : List Value} {l : List (Addr × Obj)} {kk : Nat} {t : Tok} (R : Room (n + 70) A) (F : Fm w B L (envLaw L).cells s₀ m cm rest s) (HC : OwnC B (envLaw L).cells)
    (hD : (D, lsO vs kk) ∈ rest) (hd : Deep ys vs l) (hl : ∀ p ∈ l, p ∈ rest) (hsz : ys.length ≤ 1000) (m1 : m "deep" = some (.ref D)) (c1 : cm "signs" = some (.str signsS t))
    (h : ∀ O V os ls k1 k2 s', os.map (·.1) = ys.map (fun y => Txt.find signsS y.1) → ls.map (·.1) = ys.map (·.2) → Fm w B L (envLaw L).cells s₀ m (upd (upd cm "order" (.ref O)) "levels" (.ref V)) ((V, lsO (inV ls) k2) :: (O, lsO (inV os) k1) :: rest) s' → Q .next s') :
    wpAny (M w) A (exec (lawSt 10) (envLaw L)) Q NoE s := by
  obtain ⟨h₁, g₁, d₁, k₁, o₁⟩ := s
  ktn_no "ast"
  refine Assign_Tuple ?_ (by kernel_rfl) (by kernel_rfl)
  refine Tuple_ ?_
  refine sp_cons ?_ (by kernel_rfl)
  refine list_compC (B := B) (L := L) (m := m) (cm := cm) (s₀ := s₀) (by kernel_rfl) (by rfl) (by kernel_rfl) (by kernel_rfl) (by kernel_rfl) (fun _ => rfl) ?_
  ktn_no "z"
  obtain ⟨jD, hjD⟩ := List.getElem?_of_mem hD
  refine iter_list F hjD fun I h₄ F₃ => ?_
  refine ⟨_, F₃, fun O C s₃ s₄ _ F₄ G => ?_⟩
  have G₁ := G.perm (news' := (I, itO D 0) :: (O, lsO [] 0) :: rest) (by ktn_no "perm_tac")
  clear F F₃ F₄
  have lv := hd.len
  refine comp_simpleO (steps_seq I D vs) (self_seq I D) rfl rfl R.handled (by ktn_no "om") (fun j v => ∃ t, v = .int (Txt.find signsS (ys.getD j default).1) t) rfl G₁ (fun m l k s o F => ⟨_, _, (F.nw _ (.tail _ (.tail _ hD))).1, rfl⟩) (fun j v m0 l1 k0 o0 s0 K hj hv hO G₂ q => ?_) (fun m₅ ls kd s' hl' hv G₃ => ?_)
  · obtain ⟨h, g, d, tk, os⟩ := s0
    have hjy : j < ys.length := by (first | lia | omega)
    (refine x3_2 (hd.get j _ (List.getElem?_eq_getElem hjy)) ?_; intro a t1 u1 ha hal)
    have ev : v = .ref a := by
      have := hv.symm.trans ha
      exact Option.some.inj this
    subst ev
    subst hO
    refine list_go (G₂.at 0 rfl) ?_
    have ht : h.get? a = some (tupO [.str ys[j].1 t1, .int ys[j].2 u1]) := (G₂.nw _ (.tail _ (.tail _ (hl _ hal)))).1
    refine assign_pair G₂ R.handled ht (by kernel_rfl) (by kernel_rfl) (by kernel_rfl) (by kernel_rfl) fun h₆ k₆ F₆ => ?_
    clear G₁ G₂ G
    ktn_no "z"
    refine GM.find ?_
    ktn_no "z"
    refine SC.find ?_
    exact q _ _ _ ⟨_, by rw [List.getD_eq_getElem?_getD, List.getElem?_eq_getElem hjy]; rfl⟩ (F₆.toks _)
  · refine ⟨_, _, _, _, G₃, fun s'' F₇ => ?_⟩
    obtain ⟨h₇, g₇, d₇, k₇, o₇⟩ := s''
    clear G G₁ G₃
    (refine x1_2 (ints_of ls (fun j => Txt.find signsS (ys.getD j default).1) hv) ?_; intro os eqX1 hos; subst eqX1)
    ktn_no "z"
    refine list_compC (B := B) (L := L) (m := m) (cm := cm) (s₀ := s₀) (by kernel_rfl) (by rfl) (by kernel_rfl) (by kernel_rfl) (by kernel_rfl) (fun _ => rfl) ?_
    ktn_no "z"
    refine iter_list F₇ (i := jD + 1) (by simpa using hjD) fun I₂ h₈ F₈ => ?_
    refine ⟨_, F₈, fun V C₂ s₅ s₆ _ F₉ X => ?_⟩
    have X₁ := X.perm (news' := (I₂, itO D 0) :: (V, lsO [] 0) :: (O, lsO (inV os) kd) :: rest) (by ktn_no "perm_tac")
    clear F₇ F₈ F₉
    refine comp_simpleO (steps_seq I₂ D vs) (self_seq I₂ D) rfl rfl R.handled (by ktn_no "om") (fun j v => ∃ t, v = .int ((ys.getD j default).2) t) rfl X₁ (fun m l k s o F => ⟨_, _, (F.nw _ (.tail _ (.tail _ (.tail _ hD)))).1, rfl⟩) (fun j v m0 l1 k0 o0 s0 K hj hv hO X₂ q => ?_) (fun m₆ ls₂ kd₂ s' hl'' hv₂ X₃ => ?_)
    · obtain ⟨h, g, d, tk, os⟩ := s0
      have hjy : j < ys.length := by (first | lia | omega)
      (refine x3_2 (hd.get j _ (List.getElem?_eq_getElem hjy)) ?_; intro a t1 u1 ha hal)
      have ev : v = .ref a := by
        have := hv.symm.trans ha
        exact Option.some.inj this
      subst ev
      subst hO
      refine list_go (X₂.at 0 rfl) ?_
      have ht : h.get? a = some (tupO [.str ys[j].1 t1, .int ys[j].2 u1]) := (X₂.nw _ (.tail _ (.tail _ (.tail _ (hl _ hal))))).1
      refine assign_pair X₂ R.handled ht (by kernel_rfl) (by kernel_rfl) (by kernel_rfl) (by kernel_rfl) fun h₆ k₆ X₄ => ?_
      clear X₁ X₂ X
      ktn_no "z"
      exact q _ _ _ ⟨_, by rw [List.getD_eq_getElem?_getD, List.getElem?_eq_getElem hjy]; rfl⟩ X₄
    · refine ⟨_, _, _, _, X₃, fun s'' F₇ => ?_⟩
      obtain ⟨h₇, g₇, d₇, k₇, o₇⟩ := s''
      clear X X₁ X₃
      (refine x1_2 (ints_of ls₂ (fun j => (ys.getD j default).2) hv₂) ?_; intro ls eqX1 hls; subst eqX1)
      ktn_no "z"
      refine st_newTuple (by simp) ?_
      have F₈ := F₇.push1 (g := g₇) (d := d₇) (tk := k₇) (tupO [.ref O, .ref V])
      refine assign_CC F₈ HC R.handled (F₈.at 0 rfl) (by kernel_rfl) (by kernel_rfl) (by kernel_rfl) (by kernel_rfl) (by kernel_rfl) (by kernel_rfl) fun h₉ k₉ F₉ => ?_
      refine h O V os ls kd kd₂ _ ?_ ?_ (F₉.drop 1)
      · rw [hos, hl', lv]
        exact range_map_getD ys fun y => Txt.find signsS y.1
      · rw [hls, hl'', lv]
        exact range_map_getD ys fun y => y.2
end
theorem sorted_eq : ∀ {a b : List Int}, a.Perm b → a.Pairwise (· ≤ ·) → b.Pairwise (· ≤ ·) → a = b
  | [], b, p, _, _ => p.nil_eq
  | x :: a, [], p, _, _ => absurd p.symm.nil_eq (by simp)
  | x :: a, y :: b, p, ha, hb => by
    have h1 : x ∈ y :: b := p.mem_iff.mp (.head _)
    have h2 : y ∈ x :: a := p.mem_iff.mpr (.head _)
    have exy : x = y := by
      rcases List.mem_cons.mp h1 with e | e
      · exact e
      · rcases List.mem_cons.mp h2 with e' | e'
        · exact e'.symm
        · have := (List.pairwise_cons.mp ha).1 _ e'
          have := (List.pairwise_cons.mp hb).1 _ e
          (first | lia | omega)
    subst exy
    rw [sorted_eq (List.Perm.cons_inv p) (List.pairwise_cons.mp ha).2 (List.pairwise_cons.mp hb).2]
section
variable {w : World} {B : Heap} {L : Addr} {m cm : PySem.Str → Option Value} {cl : List (PySem.Str × Addr)} {news rest : List (Addr × Obj)} {s₀ s : Shared} {A : Around} {n : Nat}
theorem sorted_list {h : Heap} {g : Array GenState} {d d₀ : Drawn} {tk tk₀ : Nat} {os : OsState} {l : Addr} {xs : List (Int × Tok)} {Q : Value → Shared → Prop} {E : Value → Shared → Prop} (F : Fm w B L cl s₀ m cm news ⟨h, g, d₀, tk₀, os⟩) (hl : h.IsList l (inV xs).toArray) (h64 : xs.length < 64)
    (q : ∀ D h' ys k, (ys.map (·.1)).Perm (xs.map (·.1)) → (ys.map (·.1)).Pairwise (· ≤ ·) → Fm w B L cl s₀ m cm ((D, lsO (inV ys) k) :: news) ⟨h', g, d, tk, os⟩ → Q (.ref D) ⟨h', g, d, tk, os⟩) : wpAny (M w) A (call (.builtin "sorted") [.ref l]) Q E ⟨h, g, d, tk, os⟩ := by
  refine sorted_N (s := ⟨h, g, d, tk, os⟩) (h₀ := {}) (L := L) (m := m) (news := allBut h L) (Fm.fr (F.withD (d := d) (tk := tk))) (Fm.nws (F.withD (d := d) (tk := tk))) hl (intsAre xs) (by simpa using h64) fun h' vs' ns' e F' N' hi hp hs => ?_
  (refine x1_2 (inV_of hi) ?_; intro ys eqX1 eqX2; subst eqX1; subst eqX2)
  (refine x0_5 (Fm.freshC (a := h.objs.size + 1) F (Nat.le_succ _)) ?_; intro a1 a2 a3 a4 a5)
  exact q _ _ ys e hp hs (Fm.addC (F.back F' N' fun p hp => .tail _ hp) (N'.get (.head _)) a1 a2 a3 a4 a5)
theorem law_11 {Q : Flow → Shared → Prop} {O : Addr} {os : List (Int × Tok)} {kk : Nat} (R : Room (n + 70) A) (F : Fm w B L (envLaw L).cells s₀ m cm rest s)
    (hO : (O, lsO (inV os) kk) ∈ rest) (hp : (os.map (·.1)).Perm [0, 1, 2, 3, 4, 5]) (c1 : cm "order" = some (.ref O))
    (h : ∀ s', Fm w B L (envLaw L).cells s₀ m cm rest s' → Q .next s') :
    wpAny (M w) A (exec (lawSt 11) (envLaw L)) Q NoE s := by
  obtain ⟨h₁, g₁, d₁, k₁, o₁⟩ := s
  have h6 : os.length = 6 := by have := hp.length_eq; simpa using this
  ktn_no "ast"
  ktn_no "z"
  refine sorted_list F (isL (F.nw _ hO).1) (by ktn_no "om") fun D h₂ ys k hp' hs F₂ => ?_
  clear F
  have ey : ys.map (·.1) = [0, 1, 2, 3, 4, 5] := sorted_eq (hp'.trans hp) hs (by decide)
  ktn_no "z"
  refine new_list (vs := inV [(0, k₁), (1, k₁ + 1), (2, k₁ + 1 + 1), (3, k₁ + 1 + 1 + 1), (4, k₁ + 1 + 1 + 1 + 1), (5, k₁ + 1 + 1 + 1 + 1 + 1)]) (F₂.toks k₁) (by simp) fun V h₃ F₃ => ?_
  refine ne_intsK (isL (F₃.at 1 rfl)) (intsAre ys) (isL (F₃.at 0 rfl)) (intsAre _) (by have := R.units; show _ < 9900; (first | lia | omega)) ?_
  rw [ey]
  refine wpAny_truthy_bool ?_
  rw [if_neg (by simp)]
  ktn_no "z"
  exact h _ (F₃.drop 2)
end
/-- a sort's questions answered -/
noncomputable def kRun {α : Type} (n : Nat) (lt : Nat → Nat → Bool) : KasT α → Option α
  | .ret a => some a
  | .ask i j k => if i < n ∧ j < n then kRun n lt (k (lt i j)) else none
theorem kRun_wp {α : Type} {n : Nat} {lt : Nat → Nat → Bool} {cmp : Nat → Nat → (Bool → Shared → Prop) → Shared → Prop} {s : Shared} {Q : α → Shared → Prop} (hc : ∀ i j C, i < n → j < n → C (lt i j) s → cmp i j C s) : ∀ (t : KasT α) (a : α), kRun n lt t = some a → Q a s → t.kasWp cmp Q s
  | .ret b, a, h, q => by
    have : b = a := Option.some.inj h
    subst this; exact q
  | .ask i j k, a, h, q => by
    unfold kRun at h
    split at h
    · rename_i hb
      exact hc i j _ hb.1 hb.2 (kRun_wp hc (k (lt i j)) a h q)
    · cases h
noncomputable def ltP (ps : List (Int × Int)) (i j : Nat) : Bool :=
  if (ps.getD i (0, 0)).1 == (ps.getD j (0, 0)).1 then (if (ps.getD i (0, 0)).2 == (ps.getD j (0, 0)).2 then false else decide ((ps.getD i (0, 0)).2 < (ps.getD j (0, 0)).2)) else decide ((ps.getD i (0, 0)).1 < (ps.getD j (0, 0)).1)
noncomputable def sortP (ps : List (Int × Int)) : Option (List (Int × Int)) :=
  if ps.length < 2 then some ps else (kRun ps.length (ltP ps) (kas_sort ps.length)).bind fun p => if p.toList.all (fun i => decide (i < ps.length)) = true then some (p.toList.map fun i => ps.getD i (0, 0)) else none
/-- pairs of ints in the heap, in any order -/
noncomputable def PrsIn (ys : List (Int × Int)) (vs : List Value) (l : List (Addr × Obj)) : Prop := vs.length = ys.length ∧ ∀ (j : Nat) (y : Int × Int), ys[j]? = some y → ∃ (a : Addr) (t u : Tok), vs[j]? = some (Value.ref a) ∧ (a, tupO [.int y.1 t, .int y.2 u]) ∈ l
section
variable {prog : Program} {w : World} {A : Around} {E : Value → Shared → Prop} {s : Shared}
theorem list_sort_one {a : Addr} {v : Value} {n : Nat} {P : PySem.Fin → Shared → Prop} (ho : s.heap.get? a = some (seqObj "list" #[v] n))
    (h : P (.done (.ret .none)) { s with heap := sortedHeap s.heap a [v] #[v] }) : wpAny (model prog w) A (Builtin.«list.sort» ⟨[.ref a], []⟩) P E s := by
  rw [list_sort_plain]
  have ha : a < s.heap.objs.size := Heap.lt_size ho
  refine wpAny_bind (listItems_at ho rfl ?_)
  refine wpAny_bind (listUpdate_at ho rfl ?_)
  obtain ⟨e1, ho1⟩ : ∃ e1, (s.heap.update a (Obj.mapSeq fun _ => #[])).get? a = some (seqObj "list" #[] e1) := ⟨_, get?_update_seq ho (fun _ => #[])⟩
  refine wpAny_bind (seqEpoch_at ho1 rfl ?_)
  refine wpAny_bind (wpAny_newTuple ?_)
  refine wpAny_bind (wpAny_newList ?_)
  refine wpAny_holding ?_
  have ho6 : (((s.heap.update a (Obj.mapSeq fun _ => #[])).push (seqObj "tuple" #[v] 0)).push (seqObj "list" #[] 0)).get? a = some (seqObj "list" #[] e1) := by
    rw [Heap.get?_push_ne _ _ _ (by rw [size_push', Heap.size_update]; exact Nat.ne_of_lt (Nat.lt_succ_of_lt ha)), Heap.get?_push_ne _ _ _ (by rw [Heap.size_update]; exact Nat.ne_of_lt ha)]
    exact ho1
  show wpAny (model prog w) A _ P E { s with heap := ((s.heap.update a (Obj.mapSeq fun _ => #[])).push (seqObj "tuple" #[v] 0)).push (seqObj "list" #[] 0) }
  dsimp only
  have h12 : (#[v] : Array Value).size < 2 := (show (1 : Nat) < 2 by decide)
  rw [if_pos h12, if_pos h12]
  refine wpAny_bind (wpAny_pure ?_)
  rw [StateT.run_pure]
  refine wpAny_bind (wpAny_pure ?_)
  dsimp only
  refine wpAny_bind (seqEpoch_at ho6 rfl ?_)
  have eo : Array.map (fun x => x.2) (arrOf (SortSt.mk' general' (#[v].zip #[v]) #[] 7 none)) = #[v] := by
    show Array.map (fun x => x.2) ((#[v] : Array Value).zip #[v]) = #[v]
    simp
  rw [eo]
  refine wpAny_bind (listUpdate_at ho6 rfl ?_ (hsz2 := by show (1 : Nat) ≤ _; rw [sizeLine_eq]; (first | lia | omega)))
  simp only [bne_self_eq_false, Bool.false_eq_true, if_false]
  exact wpAny_pure h
theorem sorted_one {l : Addr} {v : Value} {Q : Value → Shared → Prop} (hl : s.heap.IsList l [v].toArray)
    (h : Q (.ref (s.heap.objs.size + 1)) { s with heap := sortedAll s.heap [v] #[v] }) : wpAny (model prog w) A (call (.builtin "sorted") [.ref l]) Q E s := by
  refine Calls.call_function_entry kind_sorted plain_sorted entry_sorted (args_sorted1 _) ?_
  unfold Builtin.«sorted»
  refine wpAny_bind (m := checkCount "sorted" 1 1 _) (wpAny_pure ?_)
  refine wpAny_bind (collect_list hl ?_)
  refine wpAny_bind (wpAny_newList ?_)
  have hsz : ((s.heap.push (seqObj "list" #[] 0)).update s.heap.objs.size (Obj.mapSeq (· ++ [v].toArray))).objs.size = s.heap.objs.size + 1 := by
    rw [Heap.size_update, size_push']
  have hoL : (((s.heap.push (seqObj "list" #[] 0)).update s.heap.objs.size (Obj.mapSeq (· ++ [v].toArray))).push (seqObj "list" [v].toArray 0)).get? (s.heap.objs.size + 1) = some (seqObj "list" [v].toArray 0) := by
    rw [← hsz]; exact Heap.get?_push_size _ rfl
  show wpAny _ _ _ _ _ { s with heap := ((s.heap.push (seqObj "list" #[] 0)).update s.heap.objs.size (Obj.mapSeq (· ++ [v].toArray))).push (seqObj "list" [v].toArray 0) }
  rw [hsz]
  refine wpAny_bind (wpAny_holding (wpAny_call_entry slot_list_sort ⟨_, hoL, rfl⟩ entry_list_sort (list_sort_one hoL ⟨_, rfl, ?_⟩) (args_list_sort _)))
  exact wpAny_pure ⟨_, rfl, h⟩
end
section
variable {w : World} {B : Heap} {L : Addr} {m cm : PySem.Str → Option Value} {cl : List (PySem.Str × Addr)} {news rest : List (Addr × Obj)} {s₀ s : Shared} {A : Around} {n : Nat}
  {h : Heap} {g : Array GenState} {d d₀ : Drawn} {tk tk₀ : Nat} {os : OsState} {E : Value → Shared → Prop}
theorem tups_firsts {h : Heap} {lp : List (Addr × Obj)} (hs : ∀ p ∈ lp, h.get? p.1 = some p.2) : ∀ (ps : List (Int × Int)) (vs : List Value), PrsIn ps vs lp → ∃ fs : List (Int × Tok), KatTups h vs (inV fs) ∧ fs.length = ps.length
  | [], vs, hp => by
    have : vs = [] := List.eq_nil_of_length_eq_zero hp.1
    subst this
    exact ⟨[], KatTups.nil, rfl⟩
  | y :: ps, vs, hp => by
    (refine x3_2 (hp.2 0 y rfl) ?_; intro a t u hv ha)
    cases vs with
    | nil => simp at hv
    | cons v vs =>
      simp at hv
      subst hv
      obtain ⟨fs, h1, h2⟩ := tups_firsts hs ps vs ⟨by have := hp.1; simpa using this, fun j z e => by
        (refine x3_2 (hp.2 (j + 1) z (by simpa using e)) ?_; intro a' t' u' e1 e2)
        exact ⟨a', t', u', by simpa using e1, e2⟩⟩
      exact ⟨(y.1, t) :: fs, KatTups.cons (hs _ ha) rfl rfl rfl h1, by simp [h2]⟩
theorem lt_pairs {ps : List (Int × Int)} {vs : List Value} {lp : List (Addr × Obj)} (hs : ∀ p ∈ lp, h.get? p.1 = some p.2) (hP : PrsIn ps vs lp) (i j : Nat) (C : Bool → Shared → Prop) (hi : i < ps.length) (hj : j < ps.length) (q : C (ltP ps i j) ⟨h, g, d, tk, os⟩) : kas_ask pw w A (tuples' true) vs i j C ⟨h, g, d, tk, os⟩ := by
  (refine x3_2 (hP.2 i _ (List.getElem?_eq_getElem hi)) ?_; intro a t u hv ha)
  (refine x3_2 (hP.2 j _ (List.getElem?_eq_getElem hj)) ?_; intro a' t' u' hv' ha')
  unfold kas_ask
  rw [List.getD_eq_getElem?_getD, hv, List.getD_eq_getElem?_getD, hv']
  refine kat_lt (s := ⟨h, g, d, tk, os⟩) (hs _ ha) rfl (hs _ ha') rfl ?_
  have e1 : ps.getD i (0, 0) = ps[i] := by rw [List.getD_eq_getElem?_getD, List.getElem?_eq_getElem hi]; rfl
  have e2 : ps.getD j (0, 0) = ps[j] := by rw [List.getD_eq_getElem?_getD, List.getElem?_eq_getElem hj]; rfl
  unfold ltP at q
  rw [e1, e2] at q
  refine kat_cons (wpAny_eqBool_int ?_)
  refine kat_go (fun e => kat_yes (kat_cons (wpAny_eqBool_int (kat_go (fun e' => kat_yes (kat_nil ?_)) fun e' => kat_no (kat_one _ _ ?_))))) fun e => kat_no ?_
  · rw [e, if_pos rfl, e', if_pos rfl] at q
    exact q
  · rw [e, if_pos rfl, e', if_neg Bool.false_ne_true] at q
    exact wpAny_lt_int q
  · rw [e, if_neg Bool.false_ne_true] at q
    exact oneLt_int q
theorem sort_pairs {l₀ : Addr} {ps qs : List (Int × Int)} {vs : List Value} {lp : List (Addr × Obj)} {k : Nat} {Q : Value → Shared → Prop} (F : Fm w B L cl s₀ m cm news ⟨h, g, d₀, tk₀, os⟩) (hD : (l₀, lsO vs k) ∈ news) (hP : PrsIn ps vs lp) (hsub : ∀ p ∈ lp, p ∈ news) (h64 : ps.length < 64) (hs : sortP ps = some qs)
    (q : ∀ D h' vs' k', PrsIn qs vs' lp → Fm w B L cl s₀ m cm ((D, lsO vs' k') :: news) ⟨h', g, d, tk, os⟩ → Q (.ref D) ⟨h', g, d, tk, os⟩) : wpAny (M w) A (call (.builtin "sorted") [.ref l₀]) Q E ⟨h, g, d, tk, os⟩ := by
  have hl := F.nw _ hD
  have hlp : ∀ p ∈ lp, h.get? p.1 = some p.2 := fun p hp => (F.nw _ (hsub p hp)).1
  unfold sortP at hs
  by_cases h2 : ps.length < 2
  · rw [if_pos h2] at hs
    cases hs
    (refine x0_5 (Fm.freshC (a := h.objs.size + 1) F (Nat.le_succ _)) ?_; intro a1 a2 a3 a4 a5)
    cases vs with
    | nil =>
      refine sorted_list (xs := []) F (isL hl.1) (by decide) fun D h' ys k' hp _ F' => ?_
      have : ys = [] := by have := hp.length_eq; exact List.eq_nil_of_length_eq_zero (by simpa using this)
      subst this
      exact q _ _ _ _ hP F'
    | cons v vs =>
      have : vs = [] := List.eq_nil_of_length_eq_zero (by have := hP.1; simp at this; (first | lia | omega))
      subst this
      refine sorted_one (s := ⟨h, g, d, tk, os⟩) (isL hl.1) ?_
      obtain ⟨e, he⟩ := sortedAll_at h [v] #[v]
      exact q _ _ [v] e hP (Fm.addC (F.keepAll (d := d) (tk := tk) fun b o e => sortedAll_old e) he a1 a2 a3 a4 a5)
  · rw [if_neg h2] at hs
    (refine x1_2 (Option.bind_eq_some_iff.mp hs) ?_; intro p hp hs)
    split at hs
    case isFalse => cases hs
    case isTrue hall =>
    have hs := Option.some.inj hs
    refine kat_sorted (s := ⟨h, g, d, tk, os⟩) (h₀ := {}) (L := L) (m := m) (news := allBut h L) (Fm.fr (F.withD (d := d) (tk := tk))) (Fm.nws (F.withD (d := d) (tk := tk))) (isL hl.1) (by rw [hP.1]; (first | lia | omega)) (by rw [hP.1]; exact h64) fun D e1 h' F' N' hlt => ?_
    have F₁ : Fm w B L cl s₀ m cm news ⟨h', g, d, tk, os⟩ := F.back F' N' fun p hp => .tail _ hp
    have hlp' : ∀ p ∈ lp, h'.get? p.1 = some p.2 := fun p hp => (F₁.nw _ (hsub p hp)).1
    (refine x1_2 (tups_firsts hlp' ps vs hP) ?_; intro fs ht hfl)
    refine kat_kind (T := .type "int") ht (by simp; (first | lia | omega)) (fun v hv => ?_) rfl ?_
    · (refine x1_2 (List.mem_map.mp hv) ?_; intro x _ eqX2; subst eqX2)
      exact Looks.of_pure rfl
    rw [hP.1]
    refine kRun_wp (lt := ltP ps) (n := ps.length) (fun i j C hi hj hc => lt_pairs hlp' hP i j C hi hj hc) _ p hp ?_
    refine KasFin.intro F' N' (UpdF.head fun p hp => Nat.ne_of_lt (hlt p hp)) fun h'' c F'' N'' => ?_
    have F₂ : Fm w B L cl s₀ m cm news ⟨h'', g, d, tk, os⟩ := F.back F'' N'' fun p hp => .tail _ hp
    have hDL : D ≠ L := (N'' _ (.head _)).2.1
    have below : ∀ b o, h.get? b = some o → b ≠ L → b < D := fun b o e hb => hlt (b, o) (mem_allBut.mpr ⟨hb, e⟩)
    refine q D h'' (p.toList.map fun i => vs.getD i Value.none) c ⟨by rw [← hs]; simp, fun j y hy => ?_⟩ (Fm.addC F₂ (N''.get (.head _)) hDL ?_ ?_ ?_ ?_)
    · rw [← hs, List.getElem?_map] at hy
      rw [List.getElem?_map]
      cases hpj : p.toList[j]? with
      | none => rw [hpj] at hy; cases hy
      | some i =>
        rw [hpj] at hy
        have hi : i < ps.length := of_decide_eq_true (List.all_eq_true.mp hall i (List.mem_of_getElem? hpj))
        have ey : ps[i]? = some y := by
          have : ps.getD i (0, 0) = y := Option.some.inj hy
          rw [List.getD_eq_getElem?_getD, List.getElem?_eq_getElem hi] at this
          rw [List.getElem?_eq_getElem hi]
          exact congrArg some this
        (refine x3_2 (hP.2 i y ey) ?_; intro a t u hv ha)
        refine ⟨a, t, u, ?_, ha⟩
        show some (vs.getD i Value.none) = _
        rw [List.getD_eq_getElem?_getD, hv]; rfl
    · cases qB : B.get? D with
      | none => rfl
      | some o => exact absurd (below D o (F.keep _ _ qB) hDL) (Nat.lt_irrefl _)
    · exact Nat.le_of_lt (Nat.lt_of_le_of_lt hl.2.2.2 (below _ _ hl.1 hl.2.1))
    · intro hm
      (refine x1_2 (List.mem_map.mp hm) ?_; intro x hx e)
      have := F.nw x hx
      exact absurd (below _ _ this.1 this.2.1) (by rw [e]; exact Nat.lt_irrefl _)
    · intro nm c' e e'
      (refine x1_2 (F.ce nm c' e) ?_; intro o ho _)
      exact absurd (below _ _ ho (F.cd nm c' e).1) (by rw [e']; exact Nat.lt_irrefl _)
end
noncomputable def nearC (ls : List Int) (a b : Nat) : Bool := [0, 1].any (· == ls.getD a 0 - ls.getD b 0)
noncomputable def pairO (os : List Int) (a b : Nat) : Int × Int := (min (os.getD a 0) (os.getD b 0), max (os.getD a 0) (os.getD b 0))
noncomputable def innerL (os ls : List Int) (a j : Nat) : List (Int × Int) := ((List.range j).filter fun k => nearC ls a (a + 1 + k)).map fun k => pairO os a (a + 1 + k)
noncomputable def outerL (os ls : List Int) (i : Nat) : List (Int × Int) := (List.range i).flatMap fun a => innerL os ls a (5 - a)
theorem PrsIn.snoc {ys : List (Int × Int)} {vs : List Value} {l : List (Addr × Obj)} (h : PrsIn ys vs l) {y : Int × Int} {a : Addr} {t u : Tok} : PrsIn (ys ++ [y]) (vs ++ [.ref a]) ((a, tupO [.int y.1 t, .int y.2 u]) :: l) := by
  refine ⟨by simp [h.1], fun j z e => ?_⟩
  by_cases hj : j < ys.length
  · rw [List.getElem?_append_left hj] at e
    (refine x3_2 (h.2 j z e) ?_; intro a' t' u' e1 e2)
    exact ⟨a', t', u', by rw [List.getElem?_append_left (by rw [h.1]; exact hj)]; exact e1, .tail _ e2⟩
  · have hlt := (List.getElem?_eq_some_iff.mp e).1
    simp at hlt
    have hj' : j = ys.length := by (first | lia | omega)
    subst hj'
    rw [List.getElem?_append_right (Nat.le_refl _), Nat.sub_self] at e
    simp at e
    subst e
    refine ⟨a, t, u, ?_, .head _⟩
    rw [List.getElem?_append_right (by rw [h.1]; exact Nat.le_refl _), h.1, Nat.sub_self]
    rfl
section
variable {w : World} {B : Heap} {L : Addr} {m cm : PySem.Str → Option Value} {cl : List (PySem.Str × Addr)} {news rest : List (Addr × Obj)} {s₀ s : Shared} {A : Around} {n : Nat}
theorem min2 {h : Heap} {g : Array GenState} {d d₀ : Drawn} {tk tk₀ : Nat} {os : OsState} {a b : Int} {t u : Tok} {Q : Value → Shared → Prop} {E : Value → Shared → Prop} (F : Fm w B L cl s₀ m cm news ⟨h, g, d₀, tk₀, os⟩) (hh : A.handled = none)
    (q : ∀ t' h' tk', Fm w B L cl s₀ m cm news ⟨h', g, d, tk', os⟩ → Q (.int (min a b) t') ⟨h', g, d, tk', os⟩) : wpAny (M w) A (call (.builtin "min") [.int a t, .int b u]) Q E ⟨h, g, d, tk, os⟩ := by
  refine min_two_ints (s := ⟨h, g, d, tk, os⟩) hh fun h' tk' hk => ?_
  have F' : Fm w B L cl s₀ m cm news ⟨h', g, d, tk', os⟩ := F.keepAll hk
  split
  · have := q u h' tk' F'
    rwa [show min a b = b by (first | lia | omega)] at this
  · have := q t h' tk' F'
    rwa [show min a b = a by (first | lia | omega)] at this
theorem max2 {h : Heap} {g : Array GenState} {d d₀ : Drawn} {tk tk₀ : Nat} {os : OsState} {a b : Int} {t u : Tok} {Q : Value → Shared → Prop} {E : Value → Shared → Prop} (F : Fm w B L cl s₀ m cm news ⟨h, g, d₀, tk₀, os⟩) (hh : A.handled = none)
    (q : ∀ t' h' tk', Fm w B L cl s₀ m cm news ⟨h', g, d, tk', os⟩ → Q (.int (max a b) t') ⟨h', g, d, tk', os⟩) : wpAny (M w) A (call (.builtin "max") [.int a t, .int b u]) Q E ⟨h, g, d, tk, os⟩ := by
  refine max_two_ints (s := ⟨h, g, d, tk, os⟩) hh fun h' tk' hk => ?_
  have F' : Fm w B L cl s₀ m cm news ⟨h', g, d, tk', os⟩ := F.keepAll hk
  split
  · have := q u h' tk' F'
    rwa [show max a b = b by (first | lia | omega)] at this
  · have := q t h' tk' F'
    rwa [show max a b = a by (first | lia | omega)] at this
theorem inV_at {xs : List (Int × Tok)} {i : Nat} (h : i < xs.length) : (inV xs)[i]? = some (.int ((xs.map (·.1)).getD i 0) (xs[i]'h).2) := by
  simp [List.getD_eq_getElem?_getD, List.getElem?_eq_getElem h]
theorem new_tuple {h : Heap} {g : Array GenState} {d d₀ : Drawn} {tk tk₀ : Nat} {os : OsState} {vs : List Value} {Q : Value → Shared → Prop} {E : Value → Shared → Prop} (F : Fm w B L cl s₀ m cm news ⟨h, g, d₀, tk₀, os⟩) (hz : vs.length ≤ 1000)
    (q : ∀ T h', Fm w B L cl s₀ m cm ((T, tupO vs) :: news) ⟨h', g, d, tk, os⟩ → Q (.ref T) ⟨h', g, d, tk, os⟩) : wpAny (M w) A (newTuple vs) Q E ⟨h, g, d, tk, os⟩ :=
  st_newTuple hz (q _ _ (F.push1 (g := g) (d := d) (tk := tk) (tupO vs)))
theorem law_12 {Q : Flow → Shared → Prop} {O V : Addr} {os ls : List (Int × Tok)} {k1 k2 : Nat} {qs : List (Int × Int)} (R : Room (n + 70) A) (F : Fm w B L (envLaw L).cells s₀ m cm rest s) (HC : OwnC B (envLaw L).cells)
    (hO : (O, lsO (inV os) k1) ∈ rest) (hV : (V, lsO (inV ls) k2) ∈ rest) (lo : os.length = 6) (ll : ls.length = 6) (c1 : cm "order" = some (.ref O)) (c2 : cm "levels" = some (.ref V))
    (hs : sortP (outerL (os.map (·.1)) (ls.map (·.1)) 6) = some qs)
    (h : ∀ N vs l k s', PrsIn qs vs l → Fm w B L (envLaw L).cells s₀ m (upd cm "near" (.ref N)) ((N, lsO vs k) :: (l ++ rest)) s' → Q .next s') :
    wpAny (M w) A (exec (lawSt 12) (envLaw L)) Q NoE s := by
  obtain ⟨h₁, g₁, d₁, k₁, o₁⟩ := s
  ktn_no "ast"
  ktn_no "z"
  refine list_compC (B := B) (L := L) (m := m) (cm := cm) (s₀ := s₀) (by kernel_rfl) (by rfl) (by kernel_rfl) (by kernel_rfl) (by kernel_rfl) (fun _ => rfl) ?_
  ktn_no "z"
  refine range1 F fun r h₄ t' u' v' k₄ F₄ => ?_
  refine iter_range F₄ (by decide) fun I o h₅ ho F₅ => ?_
  clear F F₄
  refine ⟨_, F₅, fun D C s₃ s₄ _ F₆ G => ?_⟩
  have G₁ := G.perm (news' := (I, o) :: (D, lsO [] 0) :: rest) (by ktn_no "perm_tac")
  clear F₅ F₆ G
  refine comp_all2 (steps_range I 0 1 6) (self_range I 0 1 6) rfl rfl (fun _ => rfl) R.handled (fun i m cm' news => cm' = cm ∧ ∃ (l : List (Addr × Obj)) (vs : List Value) (k : Nat), news = (D, lsO vs k) :: (l ++ rest) ∧ PrsIn (outerL (os.map (·.1)) (ls.map (·.1)) i) vs l ∧ vs.length ≤ 6 * i) (fun _ _ _ _ _ _ _ _ => trivial) ho ⟨rfl, [], [], 0, rfl, ⟨rfl, fun j y e => by simp [outerL] at e⟩, Nat.le_refl _⟩ G₁ ?_ ?_
  · rintro i v m₁ cm₁ news o₁ s₅ K hi ⟨ti, rfl⟩ ⟨rfl, l, vs, k, rfl, hP, hvl⟩ G₂ q
    obtain ⟨h₅', g₅, d₅, k₅, o₅⟩ := s₅
    rw [show (0 : Int) + (i : Int) * 1 = (i : Int) by (first | lia | omega)]
    refine wpAny_pure (wpAny_assign_Name ?_)
    refine st_L G₂ (by kernel_rfl) (by kernel_rfl!) (by kernel_rfl) fun h₆ G₃ => ?_
    have n1 : upd m₁ "one" (.int i ti) "one" = some (.int i ti) := rfl
    revert n1 G₃
    generalize upd m₁ "one" (.int i ti) = m₆
    intro G₃ n1
    clear G₁ G₂
    refine wpAny_tests_nil ?_
    rw [if_pos rfl]
    ktn_no "z"
    have hi6 : i < 6 := hi
    rw [show ((i : Nat) : Int) + 1 = ((i + 1 : Nat) : Int) from rfl]
    refine range2 (n := 5 - i) G₃ (by ktn_no "om") fun r₂ h₇ t₂ u₂ v₂ k₇ G₄ => ?_
    refine iter_range G₄ (by ktn_no "om") fun J oJ h₈ hoJ G₅ => ?_
    clear G₃ G₄
    refine comp_all (steps_range J ((i + 1 : Nat) : Int) 1 (5 - i)) (self_range J ((i + 1 : Nat) : Int) 1 (5 - i)) rfl rfl R.handled (fun j m cm' news => cm' = cm₁ ∧ m "one" = some (.int i ti) ∧ ∃ (l : List (Addr × Obj)) (vs : List Value) (k : Nat), news = (I, o₁) :: (D, lsO vs k) :: (l ++ rest) ∧ PrsIn (outerL (os.map (·.1)) (ls.map (·.1)) i ++ innerL (os.map (·.1)) (ls.map (·.1)) i j) vs l ∧ vs.length ≤ 6 * i + j) (fun _ _ _ _ _ _ _ _ => trivial) hoJ ⟨rfl, n1, l, vs, k, rfl, by simpa [innerL] using hP, by (first | lia | omega)⟩ G₅ ?_ ?_
    · rintro j v m₂ cm₂ news o₂ s₈ K₂ hj ⟨tj, rfl⟩ ⟨rfl, n2, l, vs, k, rfl, hP, hvl⟩ X₂ q₂
      obtain ⟨h₈', g₈, d₈, k₈, o₈⟩ := s₈
      rw [show ((i + 1 : Nat) : Int) + (j : Int) * 1 = ((i + 1 + j : Nat) : Int) by (first | lia | omega)]
      refine wpAny_pure (wpAny_assign_Name ?_)
      refine st_L X₂ (by kernel_rfl) (by kernel_rfl!) (by kernel_rfl) fun h₁₀ X₃ => ?_
      have n3 : upd m₂ "two" (.int (i + 1 + j : Nat) tj) "two" = some (.int (i + 1 + j : Nat) tj) := rfl
      have n4 : upd m₂ "two" (.int (i + 1 + j : Nat) tj) "one" = some (.int i ti) := n2
      revert n3 n4 X₃
      generalize upd m₂ "two" (.int (i + 1 + j : Nat) tj) = m₆'
      intro X₃ n3 n4
      clear G₅ X₂
      have mO : (O, lsO (inV os) k1) ∈ (J, o₂) :: (I, o₁) :: (D, lsO vs k) :: (l ++ rest) := .tail _ (.tail _ (.tail _ (List.mem_append_right _ hO)))
      have mV : (V, lsO (inV ls) k2) ∈ (J, o₂) :: (I, o₁) :: (D, lsO vs k) :: (l ++ rest) := .tail _ (.tail _ (.tail _ (List.mem_append_right _ hV)))
      refine wpAny_tests_one ?_
      ktn_no "z"
      refine list_item (k := i) (X₃.nw _ mV).1 (by ktn_no "om") (inV_at (by ktn_no "om")) ?_
      ktn_no "z"
      refine list_item (k := i + 1 + j) (X₃.nw _ mV).1 (by ktn_no "om") (inV_at (by ktn_no "om")) ?_
      ktn_no "z"
      refine new_tuple (X₃.toks 0) (by simp) fun T h₁₁ X₄ => ?_
      refine in_tuple_ints (ns := [0, 1]) (tupO_is (X₄.at 0 rfl)) (intsAre [(0, k₈ + 1 + 1), (1, k₈ + 1 + 1 + 1)]) ?_
      refine wpAny_truthy_bool ?_
      have X₅ := X₄.drop 1
      dsimp only [List.drop] at X₅
      clear X₃ X₄
      have hfil : ∀ b : Bool, nearC (ls.map (·.1)) i (i + 1 + j) = b → innerL (os.map (·.1)) (ls.map (·.1)) i (j + 1) = innerL (os.map (·.1)) (ls.map (·.1)) i j ++ (if b = true then [pairO (os.map (·.1)) i (i + 1 + j)] else []) := fun b hb => by
        unfold innerL
        rw [List.range_succ, List.filter_append, List.map_append]
        congr 1
        simp only [List.filter_cons, List.filter_nil, hb]
        cases b <;> rfl
      show (if nearC (ls.map (·.1)) i (i + 1 + j) = true then _ else _)
      cases hb : nearC (ls.map (·.1)) i (i + 1 + j) with
      | false =>
        rw [if_neg Bool.false_ne_true]
        refine q₂ _ _ _ _ ⟨rfl, n4, l, vs, k, rfl, ?_, by (first | lia | omega)⟩ X₅
        rw [hfil _ hb, if_neg Bool.false_ne_true, List.append_nil]
        exact hP
      | true =>
        rw [if_pos rfl]
        ktn_no "z"
        refine list_item (k := i) (X₅.nw _ mO).1 (by ktn_no "om") (inV_at (by ktn_no "om")) ?_
        ktn_no "z"
        refine list_item (k := i + 1 + j) (X₅.nw _ mO).1 (by ktn_no "om") (inV_at (by ktn_no "om")) ?_
        ktn_no "z"
        refine min2 X₅ R.handled fun t₁ h₁₂ k₁₂ X₆ => ?_
        clear X₅
        ktn_no "z"
        refine list_item (k := i) (X₆.nw _ mO).1 (by ktn_no "om") (inV_at (by ktn_no "om")) ?_
        ktn_no "z"
        refine list_item (k := i + 1 + j) (X₆.nw _ mO).1 (by ktn_no "om") (inV_at (by ktn_no "om")) ?_
        ktn_no "z"
        refine max2 X₆ R.handled fun t₂ h₁₃ k₁₃ X₇ => ?_
        clear X₆
        ktn_no "z"
        refine new_tuple X₇ (by simp) fun T h₁₄ X₈ => ?_
        clear X₇
        refine app_at 3 X₈ rfl (by ktn_no "om") fun h₁₅ X₉ => ?_
        dsimp only [List.set] at X₉
        refine q₂ _ _ _ _ ⟨rfl, n4, (T, tupO [.int (min ((os.map (·.1)).getD i 0) ((os.map (·.1)).getD (i + 1 + j) 0)) t₁, .int (max ((os.map (·.1)).getD i 0) ((os.map (·.1)).getD (i + 1 + j) 0)) t₂]) :: l, vs ++ [.ref T], k + 1, rfl, ?_, by simp; (first | lia | omega)⟩ (X₉.perm (by ktn_no "perm_tac"))
        rw [hfil _ hb, if_pos rfl, ← List.append_assoc]
        exact hP.snoc (y := pairO (os.map (·.1)) i (i + 1 + j))
    · rintro m₂ cm₂ news s₈ ⟨rfl, n2, l, vs, k, rfl, hP, hvl⟩ X₂
      refine q _ _ _ _ ⟨rfl, l, vs, k, rfl, ?_, by (first | lia | omega)⟩ X₂
      have e : outerL (os.map (·.1)) (ls.map (·.1)) (i + 1) = outerL (os.map (·.1)) (ls.map (·.1)) i ++ innerL (os.map (·.1)) (ls.map (·.1)) i (5 - i) := by
        unfold outerL
        rw [List.range_succ, List.flatMap_append]
        simp
      rw [e]
      exact hP
  · rintro m₁ cm₁ news s₅ ⟨rfl, l, vs, k, rfl, hP, hvl⟩ G₂
    refine ⟨_, _, _, _, G₂, fun s'' F₇ => ?_⟩
    obtain ⟨h₇, g₇, d₇, k₇, o₇⟩ := s''
    ktn_no "z"
    refine sort_pairs F₇ (.head _) hP (fun p hp => .tail _ (List.mem_append_left _ hp)) (by have := hP.1; (first | lia | omega)) hs fun N h₈ vs' k' hP' F₈ => ?_
    clear F₇
    ktn_no "z"
    rename_i F₉
    exact h N vs' l k' _ hP' (F₉.erase 1)
end
noncomputable def pairD (y : Int × Int) : PyData := .tuple [.int y.1, .int y.2]
theorem reads_pairs {h : Heap} {lp : List (Addr × Obj)} (hs : ∀ p ∈ lp, h.get? p.1 = some p.2) : ∀ (ps : List (Int × Int)) (vs : List Value), PrsIn ps vs lp → ReadsAll h vs (ps.map pairD) []
  | [], vs, hp => by
    have : vs = [] := List.eq_nil_of_length_eq_zero hp.1
    subst this
    exact .nil
  | y :: ps, vs, hp => by
    (refine x3_2 (hp.2 0 y rfl) ?_; intro a t u hv ha)
    cases vs with
    | nil => simp at hv
    | cons v vs =>
      simp at hv
      subst hv
      have ih := reads_pairs hs ps vs ⟨by have := hp.1; simpa using this, fun j z e => by
        (refine x3_2 (hp.2 (j + 1) z (by simpa using e)) ?_; intro a' t' u' e1 e2)
        exact ⟨a', t', u', by simpa using e1, e2⟩⟩
      have h1 : ReadsAll h [.int y.1 t, .int y.2 u] [.int y.1, .int y.2] ([] ++ ([] ++ [])) := .cons (.int _ _) (.cons (.int _ _) .nil)
      have h2 : Reads h (.ref a) (pairD y) ([] ++ ([] ++ [])) := Reads.tuple (hs _ ha) rfl rfl h1
      exact ReadsAll.cons h2 ih
theorem pairs_same : ∀ ps : List (Int × Int), PySem.Spec.sameAll (ps.map pairD) (ps.map pairD) = true
  | [] => by simp [PySem.Spec.sameAll]
  | y :: ps => by simp [PySem.Spec.sameAll, pairD, PySem.Spec.same, pairs_same ps]
theorem pairs_mix : ∀ ps : List (Int × Int), PySem.SeqAt.noMixAll (ps.map pairD) (ps.map pairD) = true
  | [] => by simp [PySem.SeqAt.noMixAll]
  | y :: ps => by simp [PySem.SeqAt.noMixAll, pairD, PySem.SeqAt.noMix, pairs_mix ps]
theorem pairs_lay : ∀ ps : List (Int × Int), PyData.canLayAll0 (ps.map pairD) = true ∧ PyData.depthAll (ps.map pairD) ≤ 2
  | [] => by simp [PyData.canLayAll0, PyData.depthAll]
  | y :: ps => by
    have ih := pairs_lay ps
    refine ⟨by simp [PyData.canLayAll0, pairD, PyData.canLay0, ih.1], ?_⟩
    simp [PyData.depthAll, pairD, PyData.depth]
    have := ih.2
    (first | lia | omega)
theorem pairs_shaped (ps : List (Int × Int)) : SeqAt.shaped (.list (ps.map pairD)) = true := by
  have := pairs_lay ps
  show (PyData.canLay0 (.list (ps.map pairD)) && decide (PyData.depth (.list (ps.map pairD)) ≤ 64)) = true
  rw [Bool.and_eq_true]
  exact ⟨by simp only [PyData.canLay0]; exact this.1, decide_eq_true (by simp only [PyData.depth]; (first | lia | omega))⟩
section
variable {w : World} {B : Heap} {L : Addr} {m cm : PySem.Str → Option Value} {cl : List (PySem.Str × Addr)} {news rest : List (Addr × Obj)} {s₀ s : Shared} {A : Around} {n : Nat}
/-- two equal lists of pairs are not unequal -/
theorem ne_pairs {a b : Addr} {ps : List (Int × Int)} {vs us : List Value} {k1 k2 : Nat} {l1 l2 : List (Addr × Obj)} {Q : Value → Shared → Prop} {E : Value → Shared → Prop} (R : Room (n + 1) A)
    (ha : s.heap.get? a = some (lsO vs k1)) (hb : s.heap.get? b = some (lsO us k2)) (h1 : ∀ p ∈ l1, s.heap.get? p.1 = some p.2) (h2 : ∀ p ∈ l2, s.heap.get? p.1 = some p.2) (p1 : PrsIn ps vs l1) (p2 : PrsIn ps us l2)
    (q : Q (.bool false) s) : wpAny (M w) A (compareOp .NotEq (.ref a) (.ref b)) Q E s := by
  have r1 : Reads s.heap (.ref a) (.list (ps.map pairD)) [a] := Reads.list ha rfl rfl (by simpa using reads_pairs h1 ps vs p1)
  have r2 : Reads s.heap (.ref b) (.list (ps.map pairD)) [b] := Reads.list hb rfl rfl (by simpa using reads_pairs h2 ps us p2)
  refine ne_dataH_same r1 r2 (pairs_shaped ps) (pairs_shaped ps) (by have := R.units; show _ < 9900; (first | lia | omega)) (by simp only [PySem.SeqAt.noMix]; exact pairs_mix ps) ?_
  simp only [PySem.Spec.same]
  rw [pairs_same]
  exact q
theorem law_13 {Q : Flow → Shared → Prop} {W : Addr} {ws : List (PySem.Str × Tok)} {k : Nat} (R : Room (n + 70) A) (F : Fm w B L (envLaw L).cells s₀ m cm rest s) (HC : OwnC B (envLaw L).cells) (hW : (W, lsO (strValues ws) k) ∈ rest) (hl : ws.length ≤ 1000) (hw : ∀ y ∈ ws, y.1.length ≤ 1000) (m1 : m "words" = some (.ref W))
    (h : ∀ D ss k' s', ss.map (·.1) = ws.map (fun y => (y.1.length : Int)) → Fm w B L (envLaw L).cells s₀ m (upd cm "sizes" (.ref D)) ((D, lsO (inV ss) k') :: rest) s' → Q .next s') :
    wpAny (M w) A (exec (lawSt 13) (envLaw L)) Q NoE s := by
  obtain ⟨h₁, g₁, d₁, k₁, o₁⟩ := s
  ktn_no "ast"
  ktn_no "z"
  refine list_compC (B := B) (L := L) (m := m) (cm := cm) (s₀ := s₀) (by kernel_rfl) (by rfl) (by kernel_rfl) (by kernel_rfl) (by kernel_rfl) (fun _ => rfl) ?_
  ktn_no "z"
  obtain ⟨jW, hjW⟩ := List.getElem?_of_mem hW
  refine iter_list F hjW fun I h₄ F₃ => ?_
  refine ⟨_, F₃, fun D C s₃ s₄ _ F₄ G => ?_⟩
  have G₁ := G.perm (news' := (I, itO W 0) :: (D, lsO [] 0) :: rest) (by ktn_no "perm_tac")
  clear F F₃ F₄ G
  have lw : (strValues ws).length = ws.length := by simp [strValues]
  refine comp_simple (steps_seq I W (strValues ws)) (self_seq I W) rfl rfl R.handled (by ktn_no "om") (fun j v => ∃ t, v = .int (((ws.getD j default).1.length : Nat) : Int) t) rfl G₁ (fun m l k s o F => ⟨_, _, (F.nw _ (.tail _ (.tail _ hW))).1, rfl⟩) (fun j v m0 l1 k0 o0 s0 K hj hv G₂ q => ?_) (fun m₅ ls kd s' hl' hv G₃ => ?_)
  · obtain ⟨h, g, d, tk, os⟩ := s0
    have hjy : j < ws.length := by (first | lia | omega)
    have ev : v = .str ws[j].1 ws[j].2 := by
      have e : (strValues ws)[j]? = some (.str ws[j].1 ws[j].2) := by simp [strValues, List.getElem?_eq_getElem hjy]
      exact Option.some.inj (hv.symm.trans e)
    subst ev
    refine wpAny_pure (wpAny_assign_Name ?_)
    refine st_L G₂ (by kernel_rfl) (by kernel_rfl!) (by kernel_rfl) fun h₆ G₃ => ?_
    clear G₁ G₂
    ktn_no "z"
    refine SBL.len (by have := hw _ (List.getElem_mem hjy); (first | lia | omega)) ?_
    exact q _ _ _ ⟨_, by rw [List.getD_eq_getElem?_getD, List.getElem?_eq_getElem hjy]; rfl⟩ (G₃.toks _)
  · refine ⟨_, _, _, _, G₃, fun s'' F₇ => ?_⟩
    obtain ⟨h₇, g₇, d₇, k₇, o₇⟩ := s''
    clear G₁ G₃
    (refine x1_2 (ints_of ls (fun j => (((ws.getD j default).1.length : Nat) : Int)) hv) ?_; intro os eqX1 hos; subst eqX1)
    ktn_no "z"
    rename_i F₈
    refine h D os kd _ ?_ F₈
    rw [hos, hl', lw]
    exact range_map_getD ws fun y => (y.1.length : Int)
noncomputable def pairs2 (C : Nat → Nat → Bool) (a j : Nat) : List (Int × Int) := ((List.range j).filter fun k => C a (a + 1 + k)).map fun k => ((a : Int), ((a + 1 + k : Nat) : Int))
noncomputable def allPairs (C : Nat → Nat → Bool) (i : Nat) : List (Int × Int) := (List.range i).flatMap fun a => pairs2 C a (5 - a)
theorem law_14 {Q : Flow → Shared → Prop} {N S : Addr} {ss : List (Int × Tok)} {k1 k2 : Nat} {vs₀ : List Value} {lp : List (Addr × Obj)} {W : Int} {tW : Tok} {C : Nat → Nat → Bool} (R : Room (n + 70) A) (F : Fm w B L (envLaw L).cells s₀ m cm rest s)
    (hS : (S, lsO (inV ss) k1) ∈ rest) (l6 : ss.length = 6) (hN : (N, lsO vs₀ k2) ∈ rest) (hlp : ∀ p ∈ lp, p ∈ rest) (hP₀ : PrsIn (allPairs C 6) vs₀ lp) (hC : ∀ a b, a < b → b < 6 → decide ((((ss.map (·.1)).drop a).take (b + 1 - a)).sum ≤ W) = C a b)
    (c1 : cm "sizes" = some (.ref S)) (c2 : cm "near" = some (.ref N)) (c3 : cm "width" = some (.int W tW))
    (h : ∀ s', Fm w B L (envLaw L).cells s₀ m cm rest s' → Q .next s') :
    wpAny (M w) A (exec (lawSt 14) (envLaw L)) Q NoE s := by
  obtain ⟨h₁, g₁, d₁, k₁, o₁⟩ := s
  ktn_no "ast"
  ktn_no "z"
  refine list_compC (B := B) (L := L) (m := m) (cm := cm) (s₀ := s₀) (by kernel_rfl) (by rfl) (by kernel_rfl) (by kernel_rfl) (by kernel_rfl) (fun _ => rfl) ?_
  ktn_no "z"
  refine range1 F fun r h₄ t' u' v' k₄ F₄ => ?_
  refine iter_range F₄ (by decide) fun I o h₅ ho F₅ => ?_
  clear F F₄
  refine ⟨_, F₅, fun D C' s₃ s₄ _ F₆ G => ?_⟩
  have G₁ := G.perm (news' := (I, o) :: (D, lsO [] 0) :: rest) (by ktn_no "perm_tac")
  clear F₅ F₆ G
  refine comp_all2 (steps_range I 0 1 6) (self_range I 0 1 6) rfl rfl (fun _ => rfl) R.handled (fun i m cm' news => cm' = cm ∧ ∃ (l : List (Addr × Obj)) (vs : List Value) (k : Nat), news = (D, lsO vs k) :: (l ++ rest) ∧ PrsIn (allPairs C i) vs l ∧ vs.length ≤ 6 * i) (fun _ _ _ _ _ _ _ _ => trivial) ho ⟨rfl, [], [], 0, rfl, ⟨rfl, fun j y e => by simp [allPairs] at e⟩, Nat.le_refl _⟩ G₁ ?_ ?_
  · rintro i v m₁ cm₁ news o₁ s₅ K hi ⟨ti, rfl⟩ ⟨rfl, l, vs, k, rfl, hP, hvl⟩ G₂ q
    obtain ⟨h₅', g₅, d₅, k₅, o₅⟩ := s₅
    rw [show (0 : Int) + (i : Int) * 1 = (i : Int) by (first | lia | omega)]
    refine wpAny_pure (wpAny_assign_Name ?_)
    refine st_L G₂ (by kernel_rfl) (by kernel_rfl!) (by kernel_rfl) fun h₆ G₃ => ?_
    have n1 : upd m₁ "one" (.int i ti) "one" = some (.int i ti) := rfl
    revert n1 G₃
    generalize upd m₁ "one" (.int i ti) = m₆
    intro G₃ n1
    clear G₁ G₂
    refine wpAny_tests_nil ?_
    rw [if_pos rfl]
    ktn_no "z"
    have hi6 : i < 6 := hi
    rw [show ((i : Nat) : Int) + 1 = ((i + 1 : Nat) : Int) from rfl]
    refine range2 (n := 5 - i) G₃ (by ktn_no "om") fun r₂ h₇ t₂ u₂ v₂ k₇ G₄ => ?_
    refine iter_range G₄ (by ktn_no "om") fun J oJ h₈ hoJ G₅ => ?_
    clear G₃ G₄
    refine comp_all (steps_range J ((i + 1 : Nat) : Int) 1 (5 - i)) (self_range J ((i + 1 : Nat) : Int) 1 (5 - i)) rfl rfl R.handled (fun j m cm' news => cm' = cm₁ ∧ m "one" = some (.int i ti) ∧ ∃ (l : List (Addr × Obj)) (vs : List Value) (k : Nat), news = (I, o₁) :: (D, lsO vs k) :: (l ++ rest) ∧ PrsIn (allPairs C i ++ pairs2 C i j) vs l ∧ vs.length ≤ 6 * i + j) (fun _ _ _ _ _ _ _ _ => trivial) hoJ ⟨rfl, n1, l, vs, k, rfl, by simpa [pairs2] using hP, by (first | lia | omega)⟩ G₅ ?_ ?_
    · rintro j v m₂ cm₂ news o₂ s₈ K₂ hj ⟨tj, rfl⟩ ⟨rfl, n2, l, vs, k, rfl, hP, hvl⟩ X₂ q₂
      obtain ⟨h₈', g₈, d₈, k₈, o₈⟩ := s₈
      rw [show ((i + 1 : Nat) : Int) + (j : Int) * 1 = ((i + 1 + j : Nat) : Int) by (first | lia | omega)]
      refine wpAny_pure (wpAny_assign_Name ?_)
      refine st_L X₂ (by kernel_rfl) (by kernel_rfl!) (by kernel_rfl) fun h₁₀ X₃ => ?_
      have n3 : upd m₂ "two" (.int (i + 1 + j : Nat) tj) "two" = some (.int (i + 1 + j : Nat) tj) := rfl
      have n4 : upd m₂ "two" (.int (i + 1 + j : Nat) tj) "one" = some (.int i ti) := n2
      revert n3 n4 X₃
      generalize upd m₂ "two" (.int (i + 1 + j : Nat) tj) = m₆'
      intro X₃ n3 n4
      clear G₅ X₂
      have mS : (S, lsO (inV ss) k1) ∈ (J, o₂) :: (I, o₁) :: (D, lsO vs k) :: (l ++ rest) := .tail _ (.tail _ (.tail _ (List.mem_append_right _ hS)))
      refine wpAny_tests_one ?_
      ktn_no "x"
      refine list_slice ?_
      ktn_no "z"
      refine evalPart_some_step ?_
      ktn_no "z"
      refine evalPart_some_step ?_
      ktn_no "z"
      obtain ⟨jS, hjS⟩ := List.getElem?_of_mem mS
      rw [show ((i + 1 + j : Nat) : Int) + 1 = ((i + 1 + j + 1 : Nat) : Int) from rfl]
      refine ⟨_, _, _, _, _, _, _, _, jS, _, _, some (i : Nat), some (i + 1 + j + 1 : Nat), rfl, X₃.toks _, hjS, by simp; (first | lia | omega), .int _ _, .int _ _, fun y h₁₂ ky X₄ => ?_⟩
      have hz6 : (inV ss).toArray.size = 6 := by simp [l6]
      rw [slicePick_run _ i (i + 1 + j + 1) (by rw [hz6]; (first | lia | omega)) (by ktn_no "om")] at X₄
      have e0 : (((inV ss).toArray.toList.drop i).take (i + 1 + j + 1 - i)).toArray.toList = inV ((ss.drop i).take (i + 1 + j + 1 - i)) := by simp [inV]
      rw [e0] at X₄
      clear X₃
      ktn_no "z"
      refine sum_ints X₄ R.handled (isL (X₄.at 0 rfl)) fun t₉ h₁₃ k₁₃ X₅ => ?_
      replace X₅ := X₅.drop 1
      simp only [List.drop_succ_cons, List.drop_zero] at X₅
      clear X₄
      ktn_no "z"
      have hc := hC i (i + 1 + j) (by ktn_no "om") (by ktn_no "om")
      rw [← List.map_drop, ← List.map_take] at hc
      rw [hc]
      have hfil : ∀ b : Bool, C i (i + 1 + j) = b → pairs2 C i (j + 1) = pairs2 C i j ++ (if b = true then [((i : Int), ((i + 1 + j : Nat) : Int))] else []) := fun b hb => by
        unfold pairs2
        rw [List.range_succ, List.filter_append, List.map_append]
        congr 1
        simp only [List.filter_cons, List.filter_nil, hb]
        cases b <;> rfl
      cases hb : C i (i + 1 + j) with
      | false =>
        rw [if_neg Bool.false_ne_true]
        refine q₂ _ _ _ _ ⟨rfl, n4, l, vs, k, rfl, ?_, by (first | lia | omega)⟩ X₅
        rw [hfil _ hb, if_neg Bool.false_ne_true, List.append_nil]
        exact hP
      | true =>
        rw [if_pos rfl]
        ktn_no "z"
        refine new_tuple X₅ (by simp) fun T h₁₄ X₈ => ?_
        clear X₅
        refine app_at 3 X₈ rfl (by ktn_no "om") fun h₁₅ X₉ => ?_
        dsimp only [List.set] at X₉
        refine q₂ _ _ _ _ ⟨rfl, n4, (T, tupO [.int i ti, .int (i + 1 + j : Nat) tj]) :: l, vs ++ [.ref T], k + 1, rfl, ?_, by simp; (first | lia | omega)⟩ (X₉.perm (by ktn_no "perm_tac"))
        rw [hfil _ hb, if_pos rfl, ← List.append_assoc]
        exact hP.snoc (y := ((i : Int), ((i + 1 + j : Nat) : Int)))
    · rintro m₂ cm₂ news s₈ ⟨rfl, n2, l, vs, k, rfl, hP, hvl⟩ X₂
      refine q _ _ _ _ ⟨rfl, l, vs, k, rfl, ?_, by (first | lia | omega)⟩ X₂
      have e : allPairs C (i + 1) = allPairs C i ++ pairs2 C i (5 - i) := by
        unfold allPairs
        rw [List.range_succ, List.flatMap_append]
        simp
      rw [e]
      exact hP
  · rintro m₁ cm₁ news s₅ ⟨rfl, l, vs, k, rfl, hP, hvl⟩ G₂
    refine ⟨_, _, _, _, G₂, fun s'' F₇ => ?_⟩
    obtain ⟨h₇, g₇, d₇, k₇, o₇⟩ := s''
    ktn_no "z"
    refine ne_pairs (R.less (show 1 ≤ n + 70 by (first | lia | omega))) (F₇.nw _ (.tail _ (List.mem_append_right _ hN))).1 (F₇.at 0 rfl) (fun p hp => (F₇.nw _ (.tail _ (List.mem_append_right _ (hlp p hp)))).1) (fun p hp => (F₇.nw _ (.tail _ (List.mem_append_left _ hp))).1) hP₀ hP ?_
    refine wpAny_truthy_bool ?_
    rw [if_neg Bool.false_ne_true]
    ktn_no "z"
    exact h _ (F₇.sub (((List.sublist_append_right _ _)).cons _))
end
noncomputable def spotsF (rv : List Nat) (i : Nat) : List Int := (List.range i).flatMap fun a => List.replicate (rv.getD a 0) (a : Int)
section
variable {w : World} {B : Heap} {L : Addr} {m cm : PySem.Str → Option Value} {cl : List (PySem.Str × Addr)} {news rest : List (Addr × Obj)} {s₀ s : Shared} {A : Around} {n : Nat}
theorem law_15 {Q : Flow → Shared → Prop} {O V rl : Addr} {os ls : List (Int × Tok)} {k1 k2 kk : Nat} {xs : List (List Int)} {vs : List Value} {l : List (Addr × Obj)} {rv : List Nat} (R : Room (n + 70) A) (F : Fm w B L (envLaw L).cells s₀ m cm rest s)
    (hO : (O, lsO (inV os) k1) ∈ rest) (hp : (os.map (·.1)).Perm [0, 1, 2, 3, 4, 5]) (hV : (V, lsO (inV ls) k2) ∈ rest) (ll : ls.length = 6) (hrl : (rl, lsO vs kk) ∈ rest) (hL : Lists xs vs l) (hl : ∀ p ∈ l, p ∈ rest) (hx : xs[0]? = some (rv.map fun k : Nat => (k : Int))) (hrv : rv.length ≤ 10) (hrs : ∀ k ∈ rv, k ≤ 100)
    (c1 : cm "order" = some (.ref O)) (c2 : cm "levels" = some (.ref V)) (c3 : cm "rows" = some (.ref rl))
    (he : ((List.range 6).map fun p : Nat => (ls.map (·.1)).getD ((os.map (·.1)).idxOf (p : Int)) 0) = spotsF rv rv.length)
    (h : ∀ s', Fm w B L (envLaw L).cells s₀ m cm rest s' → Q .next s') :
    wpAny (M w) A (exec (lawSt 15) (envLaw L)) Q NoE s := by
  obtain ⟨h₁, g₁, d₁, k₁, o₁⟩ := s
  have h6 : os.length = 6 := by have := hp.length_eq; simpa using this
  ktn_no "ast"
  ktn_no "z"
  refine list_compC (B := B) (L := L) (m := m) (cm := cm) (s₀ := s₀) (by kernel_rfl) (by rfl) (by kernel_rfl) (by kernel_rfl) (by kernel_rfl) (fun _ => rfl) ?_
  ktn_no "z"
  refine range1 F fun r h₄ t' u' v' k₄ F₄ => ?_
  refine iter_range F₄ (by decide) fun I o h₅ ho F₅ => ?_
  clear F F₄
  refine ⟨_, F₅, fun D C s₃ s₄ _ F₆ G => ?_⟩
  have G₁ := G.perm (news' := (I, o) :: (D, lsO [] 0) :: rest) (by ktn_no "perm_tac")
  clear F₅ F₆ G
  refine comp_simple (steps_range I 0 1 6) (self_range I 0 1 6) rfl rfl R.handled (by decide) (fun j v => ∃ t, v = .int ((ls.map (·.1)).getD ((os.map (·.1)).idxOf (j : Int)) 0) t) ho G₁ (fun _ _ _ _ _ _ => trivial) (fun j v m0 l1 k0 o0 s0 K hj hv G₂ q => ?_) (fun m₅ ls₁ kd s' hl' hv G₃ => ?_)
  · obtain ⟨ti, rfl⟩ := hv
    obtain ⟨h, g, d, tk, os'⟩ := s0
    rw [show (0 : Int) + (j : Int) * 1 = (j : Int) by (first | lia | omega)]
    refine wpAny_pure (wpAny_assign_Name ?_)
    refine st_L G₂ (by kernel_rfl) (by kernel_rfl!) (by kernel_rfl) fun h₆ G₃ => ?_
    clear G₁ G₂
    have mO := (G₃.nw _ (.tail _ (.tail _ hO))).1
    have mV := (G₃.nw _ (.tail _ (.tail _ hV))).1
    ktn_no "z"
    refine getMethod_list_of PySem.F.slot_list_index PySem.F.type_list_index (isL mO) (noD mO) ?_
    ktn_no "z"
    have hj6 : j < 6 := hj
    have hmem : (j : Int) ∈ os.map (·.1) := hp.mem_iff.mpr (by simp; (first | lia | omega))
    have hidx : (os.map (·.1)).idxOf (j : Int) < 6 := by
      have := List.idxOf_lt_length_iff.mpr hmem
      rw [List.length_map, h6] at this
      exact this
    refine index_list_ints (isL mO) (intsAre os) (layable_ints_perm hp (by decide)) hmem ?_
    ktn_no "z"
    refine list_item mV (by ktn_no "om") (inV_at (by ktn_no "om")) ?_
    exact q _ _ _ ⟨_, rfl⟩ (G₃.toks _)
  · refine ⟨_, _, _, _, G₃, fun s'' F₇ => ?_⟩
    obtain ⟨h₇, g₇, d₇, k₇, o₇⟩ := s''
    clear G₁ G₃
    (refine x1_2 (ints_of ls₁ _ hv) ?_; intro yl eqX1 hy; subst eqX1)
    ktn_no "x"
    (refine x3_3 (hL.get 0 _ hx) ?_; intro a0 y k0 ha0 hal0 hy0)
    have hyl : y.length = rv.length := by have := congrArg List.length hy0; simpa using this
    refine list_compC (B := B) (L := L) (m := m) (cm := cm) (s₀ := s₀) (by kernel_rfl) (by rfl) (by kernel_rfl) (by kernel_rfl) (by kernel_rfl) (fun _ => rfl) ?_
    ktn_no "z"
    refine list_item (k := 0) (F₇.nw _ (.tail _ hrl)).1 (by decide) ha0 ?_
    ktn_no "z"
    obtain ⟨j0, hj0⟩ := List.getElem?_of_mem (hl _ hal0)
    refine enumL_make (F₇.toks 0) (i := j0 + 1) (by simpa using hj0) fun E S h₈ oS hoS F₈ => ?_
    clear F₇
    refine wpAny_pyIter_enum (F₈.at 0 rfl) ?_
    refine ⟨_, F₈, fun D' C₂ s₅ s₆ _ F₉ X => ?_⟩
    have X₁ := X.perm (news' := (E, enumO S ((0 : Nat) : Int) .none) :: (S, oS) :: (D', lsO [] 0) :: (D, lsO (inV yl) kd) :: rest) (by ktn_no "perm_tac")
    clear F₈ F₉ X
    have mA : ∀ Y : List (Addr × Obj), (a0, lsO (inV y) k0) ∈ Y ++ ((D, lsO (inV yl) kd) :: rest) := fun Y => List.mem_append_right _ (.tail _ (hl _ hal0))
    refine comp_allG2 (n := rv.length)
      (Inv := fun i m cm' news => cm' = cm ∧ ∃ old oS lv kv, news = (E, enumO S (i : Nat) old) :: (S, oS) :: (D', lsO (inV lv) kv) :: (D, lsO (inV yl) kd) :: rest ∧ LiO a0 i oS ∧ lv.map (·.1) = spotsF rv i ∧ lv.length ≤ 100 * i)
      (Mid := fun i v m cm' news => cm' = cm ∧ ∃ (T : Addr) (oS : Obj) (lv : List (Int × Tok)) (kv : Nat) (t1 t2 : Tok), v = .ref T ∧ news = (T, tupO [.int (i : Nat) t1, .int (rv.getD i 0 : Nat) t2]) :: (E, enumP S (i + 1 : Nat) (.int (rv.getD i 0 : Nat) t2) T) :: (S, oS) :: (D', lsO (inV lv) kv) :: (D, lsO (inV yl) kd) :: rest ∧ LiO a0 (i + 1) oS ∧ lv.map (·.1) = spotsF rv i ∧ lv.length ≤ 100 * i)
      (End := fun m cm' news => cm' = cm ∧ ∃ o lv kv, news = (E, o) :: (D', lsO (inV lv) kv) :: (D, lsO (inV yl) kd) :: rest ∧ lv.map (·.1) = spotsF rv rv.length)
      rfl rfl (fun _ => rfl) (fun s Q' hh q => by rcases hh with ⟨_, _, _, ⟨_, _, _, _, _, e, _⟩, F⟩; subst e; exact wpAny_pyIter_enum (F.at 0 rfl) q)
      (fun i m cm' news s Q' hi hv F q => by
        (refine y4_4 (hv) ?_; try clear hv; intro eqX0 old oS lv kv eqX5 hoS hlv hln; subst eqX0; subst eqX5)
        obtain ⟨h, g, d, tk, os⟩ := s
        have hbi := inV_at (xs := y) (i := i) (by ktn_no "om")
        rw [hy0] at hbi
        have hg : (rv.map fun k : Nat => (k : Int)).getD i 0 = ((rv.getD i 0 : Nat) : Int) := by
          rw [List.getD_eq_getElem?_getD, List.getD_eq_getElem?_getD, List.getElem?_map, List.getElem?_eq_getElem hi]; rfl
        rw [hg] at hbi
        refine enumL_next F hoS (isL (F.nw _ (mA [_, _, _])).1) hbi fun T h' tk' t1 oS' hoS' F' => ?_
        exact q _ _ _ ⟨rfl, T, oS', lv, kv, t1, _, rfl, rfl, hoS', hlv, hln⟩ F')
      (fun m cm' news s Q' hv F q => by
        (refine y4_4 (hv) ?_; try clear hv; intro eqX0 old oS lv kv eqX5 hoS hlv hln; subst eqX0; subst eqX5)
        obtain ⟨h, g, d, tk, os⟩ := s
        refine enumL_end F R.handled hoS (isL (F.nw _ (mA [_, _, _])).1) (by simpa using hyl) fun h' F' => ?_
        exact q _ _ ⟨rfl, _, lv, kv, rfl, hlv⟩ F')
      (fun i v m cm' news s K hi hv F q => by
        (refine y6_5 (hv) ?_; try clear hv; intro eqX0 T oS lv kv t1 t2 eqX7 eqX8 hoS hlv hln; subst eqX0; subst eqX7; subst eqX8)
        obtain ⟨h, g, d, tk, os⟩ := s
        refine enum_go F fun h₅ F₅ => ?_
        refine assign_pair F₅ R.handled (F₅.at 0 rfl) (by kernel_rfl) (by kernel_rfl) (by kernel_rfl) (by kernel_rfl) fun h₆ k₆ F₆ => ?_
        clear F F₅ X₁
        replace F₆ := F₆.drop 1
        dsimp only [List.drop] at F₆
        have n1 : upd (upd m "spot" (.int (i : Nat) t1)) "held" (.int (rv.getD i 0 : Nat) t2) "spot" = some (.int (i : Nat) t1) := rfl
        have n2 : upd (upd m "spot" (.int (i : Nat) t1)) "held" (.int (rv.getD i 0 : Nat) t2) "held" = some (.int (rv.getD i 0 : Nat) t2) := rfl
        revert n1 n2 F₆
        generalize upd (upd m "spot" (.int (i : Nat) t1)) "held" (.int (rv.getD i 0 : Nat) t2) = m₇
        intro F₆ n1 n2
        refine wpAny_tests_nil ?_
        rw [if_pos rfl]
        ktn_no "z"
        have hh100 : rv.getD i 0 ≤ 100 := by
          rw [List.getD_eq_getElem?_getD, List.getElem?_eq_getElem hi]
          exact hrs _ (List.getElem_mem hi)
        refine range1 (n := rv.getD i 0) F₆ fun r₂ h₇ t₂ u₂ v₂ k₇ F₇ => ?_
        refine iter_range F₇ (by ktn_no "om") fun J oJ h₈ hoJ F₈ => ?_
        clear F₆ F₇
        refine comp_all (steps_range J 0 1 (rv.getD i 0)) (self_range J 0 1 (rv.getD i 0)) rfl rfl R.handled (fun j m cm'' news => cm'' = cm' ∧ m "spot" = some (.int (i : Nat) t1) ∧ ∃ lv kv, news = (E, enumO S (i + 1 : Nat) (.int (rv.getD i 0 : Nat) t2)) :: (S, oS) :: (D', lsO (inV lv) kv) :: (D, lsO (inV yl) kd) :: rest ∧ lv.map (·.1) = spotsF rv i ++ List.replicate j (i : Int) ∧ lv.length ≤ 100 * i + j) (fun _ _ _ _ _ _ _ _ => trivial) hoJ ⟨rfl, n1, lv, kv, rfl, by simpa using hlv, by (first | lia | omega)⟩ F₈ ?_ ?_
        · rintro j v m₂ cm₂ news o₂ s₈ K₂ hj ⟨tj, rfl⟩ ⟨rfl, n3, lv, kv, rfl, hlv, hln⟩ X₂ q₂
          obtain ⟨h₈', g₈, d₈, k₈, o₈⟩ := s₈
          refine wpAny_pure (wpAny_assign_Name ?_)
          refine st_L X₂ (by kernel_rfl) (by kernel_rfl!) (by kernel_rfl) fun h₁₀ X₃ => ?_
          clear X₂ F₈
          have n4 : upd m₂ "turn" (.int (0 + (j : Int) * 1) tj) "spot" = some (.int (i : Nat) t1) := n3
          revert n4 X₃
          generalize upd m₂ "turn" (.int (0 + (j : Int) * 1) tj) = m₈
          intro X₃ n4
          refine wpAny_tests_nil ?_
          rw [if_pos rfl]
          ktn_no "z"
          refine app_at 3 X₃ rfl (by simp; (first | lia | omega)) fun h₁₁ X₄ => ?_
          dsimp only [List.set] at X₄
          have e2 : inV (lv ++ [((i : Int), t1)]) = inV lv ++ [.int (i : Nat) t1] := by simp [inV]
          refine q₂ _ _ ((E, enumO S (i + 1 : Nat) (.int (rv.getD i 0 : Nat) t2)) :: (S, oS) :: (D', lsO (inV (lv ++ [((i : Int), t1)])) (kv + 1)) :: (D, lsO (inV yl) kd) :: rest) _ ⟨rfl, n4, _, _, rfl, ?_, by simp; (first | lia | omega)⟩ (by rw [e2]; exact X₄)
          rw [List.map_append, hlv, List.append_assoc, List.replicate_succ']
          rfl
        · rintro m₂ cm₂ news s₈ ⟨rfl, n3, lv, kv, rfl, hlv, hln⟩ X₂
          refine q _ _ _ _ ⟨rfl, _, oS, lv, kv, rfl, hoS, ?_, by (first | lia | omega)⟩ X₂
          rw [hlv]
          unfold spotsF
          rw [List.range_succ, List.flatMap_append]
          simp) ⟨rfl, _, oS, [], 0, rfl, hoS, rfl, Nat.zero_le _⟩ X₁ ?_
    rintro m' cm' news' s' ⟨rfl, o, lv, kv, rfl, hlv⟩ X₂
    refine ⟨_, _, _, _, X₂, fun s'' F₉ => ?_⟩
    obtain ⟨h₉, g₉, d₉, k₉, o₉⟩ := s''
    clear X₁ X₂
    have e6 : (inV yl).length = 6 := hl'
    refine ne_intsK (isL (F₉.at 2 rfl)) (intsAre yl) (isL (F₉.at 1 rfl)) (intsAre lv) (by have := R.units; show _ < 9900; (first | lia | omega)) ?_
    rw [hy, e6, he, hlv]
    refine wpAny_truthy_bool ?_
    rw [if_neg (by simp)]
    ktn_no "z"
    exact h _ (F₉.drop 3)
end
noncomputable def DpIn (ys : List (PySem.Str × Int)) (vs : List Value) (l : List (Addr × Obj)) : Prop := vs.length = ys.length ∧ ∀ (j : Nat) (y : PySem.Str × Int), ys[j]? = some y → ∃ (a : Addr) (t u : Tok), vs[j]? = some (Value.ref a) ∧ (a, tupO [.str y.1 t, .int y.2 u]) ∈ l
theorem Deep.dp {ys : List (PySem.Str × Int)} {vs : List Value} {l : List (Addr × Obj)} (h : Deep ys vs l) : DpIn ys vs l := ⟨h.len, fun j y e => h.get j y e⟩
theorem DpIn.snoc {ys : List (PySem.Str × Int)} {vs : List Value} {l : List (Addr × Obj)} (h : DpIn ys vs l) {y : PySem.Str × Int} {a : Addr} {t u : Tok} : DpIn (ys ++ [y]) (vs ++ [.ref a]) ((a, tupO [.str y.1 t, .int y.2 u]) :: l) := by
  refine ⟨by simp [h.1], fun j z e => ?_⟩
  by_cases hj : j < ys.length
  · rw [List.getElem?_append_left hj] at e
    (refine x3_2 (h.2 j z e) ?_; intro a' t' u' e1 e2)
    exact ⟨a', t', u', by rw [List.getElem?_append_left (by rw [h.1]; exact hj)]; exact e1, .tail _ e2⟩
  · have hlt := (List.getElem?_eq_some_iff.mp e).1
    simp at hlt
    have hj' : j = ys.length := by (first | lia | omega)
    subst hj'
    rw [List.getElem?_append_right (Nat.le_refl _), Nat.sub_self] at e
    simp at e
    subst e
    refine ⟨a, t, u, ?_, .head _⟩
    rw [List.getElem?_append_right (by rw [h.1]; exact Nat.le_refl _), h.1, Nat.sub_self]
    rfl
noncomputable def dpD (y : PySem.Str × Int) : PyData := .tuple [.str y.1, .int y.2]
theorem reads_dps {h : Heap} {lp : List (Addr × Obj)} (hs : ∀ p ∈ lp, h.get? p.1 = some p.2) : ∀ (ps : List (PySem.Str × Int)) (vs : List Value), DpIn ps vs lp → ReadsAll h vs (ps.map dpD) []
  | [], vs, hp => by
    have : vs = [] := List.eq_nil_of_length_eq_zero hp.1
    subst this
    exact .nil
  | y :: ps, vs, hp => by
    (refine x3_2 (hp.2 0 y rfl) ?_; intro a t u hv ha)
    cases vs with
    | nil => simp at hv
    | cons v vs =>
      simp at hv
      subst hv
      have ih := reads_dps hs ps vs ⟨by have := hp.1; simpa using this, fun j z e => by
        (refine x3_2 (hp.2 (j + 1) z (by simpa using e)) ?_; intro a' t' u' e1 e2)
        exact ⟨a', t', u', by simpa using e1, e2⟩⟩
      have h1 : ReadsAll h [.str y.1 t, .int y.2 u] [.str y.1, .int y.2] ([] ++ ([] ++ [])) := .cons (.str _ _) (.cons (.int _ _) .nil)
      have h2 : Reads h (.ref a) (dpD y) ([] ++ ([] ++ [])) := Reads.tuple (hs _ ha) rfl rfl h1
      exact ReadsAll.cons h2 ih
theorem dps_mix : ∀ ps : List (PySem.Str × Int), PySem.SeqAt.noMixAll (ps.map dpD) (ps.map dpD) = true
  | [] => by simp [PySem.SeqAt.noMixAll]
  | y :: ps => by simp [PySem.SeqAt.noMixAll, dpD, PySem.SeqAt.noMix, dps_mix ps]
theorem dps_lay : ∀ ps : List (PySem.Str × Int), (∀ y ∈ ps, PyData.strOk y.1 = true) → PyData.canLayAll0 (ps.map dpD) = true ∧ PyData.depthAll (ps.map dpD) ≤ 2
  | [], _ => by simp [PyData.canLayAll0, PyData.depthAll]
  | y :: ps, h => by
    have ih := dps_lay ps fun z hz => h z (.tail _ hz)
    refine ⟨by simp [PyData.canLayAll0, dpD, PyData.canLay0, ih.1, h y (.head _)], ?_⟩
    simp [PyData.depthAll, dpD, PyData.depth]
    have := ih.2
    (first | lia | omega)
theorem dps_shaped (ps : List (PySem.Str × Int)) (h : ∀ y ∈ ps, PyData.strOk y.1 = true) : SeqAt.shaped (.list (ps.map dpD)) = true := by
  have := dps_lay ps h
  show (PyData.canLay0 (.list (ps.map dpD)) && decide (PyData.depth (.list (ps.map dpD)) ≤ 64)) = true
  rw [Bool.and_eq_true]
  exact ⟨by simp only [PyData.canLay0]; exact this.1, decide_eq_true (by simp only [PyData.depth]; (first | lia | omega))⟩
section
variable {w : World} {B : Heap} {L : Addr} {m cm : PySem.Str → Option Value} {cl : List (PySem.Str × Addr)} {news rest : List (Addr × Obj)} {s₀ s : Shared} {A : Around} {n : Nat}
theorem eq_dps {a b : Addr} {ps : List (PySem.Str × Int)} {vs us : List Value} {k1 k2 : Nat} {l1 l2 : List (Addr × Obj)} {Q : Value → Shared → Prop} {E : Value → Shared → Prop} (R : Room (n + 1) A) (ok : ∀ y ∈ ps, PyData.strOk y.1 = true)
    (ha : s.heap.get? a = some (lsO vs k1)) (hb : s.heap.get? b = some (lsO us k2)) (h1 : ∀ p ∈ l1, s.heap.get? p.1 = some p.2) (h2 : ∀ p ∈ l2, s.heap.get? p.1 = some p.2) (p1 : DpIn ps vs l1) (p2 : DpIn ps us l2)
    (q : Q (.bool true) s) : wpAny (M w) A (compareOp .Eq (.ref a) (.ref b)) Q E s := by
  have r1 : Reads s.heap (.ref a) (.list (ps.map dpD)) [a] := Reads.list ha rfl rfl (by simpa using reads_dps h1 ps vs p1)
  have r2 : Reads s.heap (.ref b) (.list (ps.map dpD)) [b] := Reads.list hb rfl rfl (by simpa using reads_dps h2 ps us p2)
  refine eq_dataH_same r1 r2 (dps_shaped ps ok) (dps_shaped ps ok) (by have := R.units; show _ < 9900; (first | lia | omega)) (by simp only [PySem.SeqAt.noMix]; exact dps_mix ps) ?_
  rw [PySem.Spec.same_self]
  exact q
noncomputable def lawEnd (qs : List (Int × Int)) (i : Nat) : List (PySem.Str × Int) := (List.range i).map fun p => (⟨#[signsS.cps.getD p 0]⟩, ((qs.filter fun y => y.2 == (p : Int)).length : Int))
theorem law_16 {Q : Flow → Shared → Prop} {N : Addr} {x : PySem.Str} {qs : List (Int × Int)} {vs₀ : List Value} {lp : List (Addr × Obj)} {k2 : Nat} {t tx : Tok} (R : Room (n + 70) A) (F : Fm w B L (envLaw L).cells s₀ m cm rest s)
    (hN : (N, lsO vs₀ k2) ∈ rest) (hlp : ∀ p ∈ lp, p ∈ rest) (hP₀ : PrsIn qs vs₀ lp) (hq : qs.length ≤ 100)
    (m1 : m "queue" = some (.str x tx)) (hx : MailFine x) (c2 : cm "near" = some (.ref N)) (c1 : cm "signs" = some (.str signsS t))
    (he : mailF x = lawEnd qs 6)
    (h : ∀ s' rest', Fm w B L (envLaw L).cells s₀ m cm rest' s' → Q (.ret (.bool true)) s') :
    wpAny (M w) A (exec (lawSt 16) (envLaw L)) Q NoE s := by
  obtain ⟨h₁, g₁, d₁, k₁, o₁⟩ := s
  ktn_no "ast"
  ktn_no "z"
  refine mail_spec (n := n) (R.less (by ktn_no "le")) (F.toks _) hx fun D vs l k s' hd F₂ => ?_
  obtain ⟨h₂, g₂, d₂, k₂, o₂⟩ := s'
  clear F
  rw [he] at hd
  ktn_no "x"
  refine list_comp1 (B := B) (L := L) (m := m) (cm := cm) (s₀ := s₀) (x := "place") (by kernel_rfl) (by rfl) (fun _ _ => rfl) (fun _ => rfl) (by kernel_rfl) (by kernel_rfl) (fun _ => rfl) ?_
  ktn_no "z"
  refine range1 F₂ fun r h₄ t' u' v' k₄ F₄ => ?_
  refine iter_range F₄ (by decide) fun I o h₅ ho F₅ => ?_
  clear F₂ F₄
  refine ⟨_, F₅, fun D₂ C c s₃ s₄ _ F₆ G hcn hcz => ?_⟩
  have G₁ := G.perm (news' := (I, o) :: (D₂, lsO [] 0) :: (D, lsO vs k) :: (l ++ rest)) (by ktn_no "perm_tac")
  clear F₅ F₆ G
  have mN : ∀ Y Z : List (Addr × Obj), (N, lsO vs₀ k2) ∈ Y ++ (Z ++ ((D, lsO vs k) :: (l ++ rest))) := fun Y Z => List.mem_append_right _ (List.mem_append_right _ (.tail _ (List.mem_append_right _ hN)))
  have mP : ∀ (Y Z : List (Addr × Obj)), ∀ p ∈ lp, p ∈ Y ++ (Z ++ ((D, lsO vs k) :: (l ++ rest))) := fun Y Z p hp => List.mem_append_right _ (List.mem_append_right _ (.tail _ (List.mem_append_right _ (hlp p hp))))
  refine comp_all (steps_range I 0 1 6) (self_range I 0 1 6) rfl rfl R.handled (fun i m cm' news => cm' "near" = some (.ref N) ∧ cm' "signs" = some (.str signsS t) ∧ ∃ (l₂ : List (Addr × Obj)) (vs₂ : List Value) (k₃ : Nat), news = (D₂, lsO vs₂ k₃) :: (l₂ ++ ((D, lsO vs k) :: (l ++ rest))) ∧ DpIn (lawEnd qs i) vs₂ l₂) (fun _ _ _ _ _ _ _ _ => trivial) ho ⟨by unfold less1; rw [if_neg (by decide)]; exact c2, by unfold less1; rw [if_neg (by decide)]; exact c1, [], [], 0, rfl, ⟨rfl, fun j y e => by simp [lawEnd] at e⟩⟩ G₁ ?_ ?_
  · rintro i v m₁ cm₁ news o₁ s₅ K hi ⟨ti, rfl⟩ ⟨c3, c4, l₂, vs₂, k₃, rfl, hD₂⟩ G₂ q
    obtain ⟨h₅', g₅, d₅, k₅, o₅⟩ := s₅
    rw [show (0 : Int) + (i : Int) * 1 = (i : Int) by (first | lia | omega)]
    refine wpAny_pure (wpAny_assign_Name ?_)
    refine st_C G₂ (by kernel_rfl) (by kernel_rfl!) (by kernel_rfl) (by kernel_rfl) hcn hcz fun h₆ G₃ => ?_
    clear G₁ G₂
    have c5 : upd cm₁ "place" (.int i ti) "place" = some (.int i ti) := rfl
    have c6 : upd cm₁ "place" (.int i ti) "near" = some (.ref N) := c3
    have c7 : upd cm₁ "place" (.int i ti) "signs" = some (.str signsS t) := c4
    clear c3 c4
    revert c5 c6 c7 G₃
    generalize upd cm₁ "place" (.int i ti) = cm₆
    intro G₃ c5 c6 c7
    refine wpAny_tests_nil ?_
    rw [if_pos rfl]
    ktn_no "z"
    have hi6 : i < 6 := hi
    have hci : signsS.cps[i]? = some (signsS.cps.getD i 0) := by
      have : ∀ i, i < 6 → signsS.cps[i]? = some (signsS.cps.getD i 0) := by decide
      exact this i hi6
    refine str_item (c := signsS.cps.getD i 0) (by rw [Bool.or_eq_false_iff]; exact ⟨decide_eq_false (by ktn_no "om"), decide_eq_false (by ktn_no "om")⟩) (StrLaws.at_nonneg (by ktn_no "om") (by simpa using hci)) fun ts s' e1 e2 e3 e4 => ?_
    obtain ⟨h₇, g₇, d₇, k₇, o₇⟩ := s'
    dsimp only at e1 e2 e3 e4
    subst e1 e2 e3 e4
    ktn_no "z"
    refine list_compC (B := under s₃ ((D₂, lsO [] 0) :: (I, o) :: (D, lsO vs k) :: (l ++ rest))) (L := C) (m := m₁) (cm := cm₆) (s₀ := s₃) (by kernel_rfl) (by rfl) (by kernel_rfl) (by kernel_rfl) (by kernel_rfl) (fun _ => rfl) ?_
    ktn_no "z"
    obtain ⟨jN, hjN⟩ := List.getElem?_of_mem (mN [(I, o₁), (D₂, lsO vs₂ k₃)] l₂)
    refine iter_list (G₃.toks 0) hjN fun J h₈ G₄ => ?_
    refine ⟨_, G₄, fun D₃ C₃ s₆ s₇ _ G₅ X => ?_⟩
    have X₁ := X.perm (news' := (J, itO N 0) :: (D₃, lsO [] 0) :: (I, o₁) :: (D₂, lsO vs₂ k₃) :: (l₂ ++ ((D, lsO vs k) :: (l ++ rest)))) (by ktn_no "perm_tac")
    clear G₃ G₄ G₅ X
    have lv : vs₀.length = qs.length := hP₀.1
    refine comp_all (steps_seq J N vs₀) (self_seq J N) rfl rfl R.handled (fun j m cm' news => cm' = cm₆ ∧ ∃ (us : List Value) (k₄ : Nat), news = (D₃, lsO us k₄) :: (I, o₁) :: (D₂, lsO vs₂ k₃) :: (l₂ ++ ((D, lsO vs k) :: (l ++ rest))) ∧ us.length = ((qs.take j).filter fun y => y.2 == (i : Int)).length ∧ us.length ≤ j) (fun i m cm news s o hv F => ?_) rfl ⟨rfl, [], 0, rfl, by simp, Nat.le_refl _⟩ X₁ ?_ ?_
    · (refine y2_2 (hv) ?_; try clear hv; intro _ us k₄ eqX3 _; subst eqX3)
      exact ⟨_, _, (F.nw _ (mN [_, _, _, _] l₂)).1, rfl⟩
    · rintro j v m₂ cm₂ news o₂ s₈ K₂ hj hv ⟨rfl, us, k₄, rfl, hus, husl⟩ X₂ q₂
      obtain ⟨h₈', g₈, d₈, k₈, o₈⟩ := s₈
      have hjq : j < qs.length := by (first | lia | omega)
      (refine x3_2 (hP₀.2 j _ (List.getElem?_eq_getElem hjq)) ?_; intro a t1 u1 ha hal)
      have ev : v = .ref a := Option.some.inj (hv.symm.trans ha)
      subst ev
      refine wpAny_pure (wpAny_assign_Name ?_)
      refine st_L X₂ (by kernel_rfl) (by kernel_rfl!) (by kernel_rfl) fun h₁₀ X₃ => ?_
      clear X₁ X₂
      have n4 : upd m₂ "pair" (.ref a) "pair" = some (.ref a) := rfl
      revert n4 X₃
      generalize upd m₂ "pair" (.ref a) = m₈
      intro X₃ n4
      refine wpAny_tests_one ?_
      ktn_no "z"
      have gt := (X₃.nw _ (mP [_, _, _, _] l₂ _ hal)).1
      refine tup_item (tupO_is gt) (by decide) (by decide) (j := 1) rfl rfl ?_
      ktn_no "z"
      have htk : ∀ b : Bool, (qs[j].2 == (i : Int)) = b → ((qs.take (j + 1)).filter fun y => y.2 == (i : Int)).length = ((qs.take j).filter fun y => y.2 == (i : Int)).length + (if b = true then 1 else 0) := fun b hb => by
        rw [List.take_succ, List.getElem?_eq_getElem hjq, List.filter_append, List.length_append]
        congr 1
        simp only [Option.toList_some, List.filter_cons, List.filter_nil, hb]
        cases b <;> rfl
      cases hb : (qs[j].2 == (i : Int)) with
      | false =>
        rw [if_neg Bool.false_ne_true]
        refine q₂ _ _ _ _ ⟨rfl, us, k₄, rfl, ?_, by (first | lia | omega)⟩ (X₃.toks _)
        rw [htk _ hb, if_neg Bool.false_ne_true]
        exact hus
      | true =>
        rw [if_pos rfl]
        ktn_no "z"
        refine app_at 1 X₃ rfl (by ktn_no "om") fun h₁₁ X₄ => ?_
        dsimp only [List.set] at X₄
        refine q₂ _ _ _ _ ⟨rfl, us ++ [.ref a], k₄ + 1, rfl, ?_, by simp; (first | lia | omega)⟩ X₄
        rw [htk _ hb, if_pos rfl, List.length_append, hus]
        rfl
    · rintro m₂ cm₂ news s₈ ⟨rfl, us, k₄, rfl, hus, husl⟩ X₂
      refine ⟨_, _, _, _, X₂, fun s'' F₇ => ?_⟩
      obtain ⟨h₇', g₇, d₇, k₇, o₇⟩ := s''
      clear X₁ X₂
      ktn_no "z"
      refine PyProof.Rows.len_list (isL (F₇.at 0 rfl)) (by simp; (first | lia | omega)) ?_
      ktn_no "z"
      refine new_tuple (F₇.toks 0) (by simp) fun T h₁₄ X₈ => ?_
      clear F₇
      refine app_at 3 X₈ rfl (by have := hD₂.1; simp [lawEnd] at this; (first | lia | omega)) fun h₁₅ X₉ => ?_
      dsimp only [List.set] at X₉
      have hcount : (us.toArray.size : Int) = ((qs.filter fun y => y.2 == (i : Int)).length : Int) := by
        rw [List.size_toArray, hus, lv, List.take_length]
      have X₁₀ := X₉.sub ((List.sublist_cons_self _ _).cons₂ _)
      rw [hcount] at X₁₀
      refine q _ _ _ _ ⟨c6, c7, (T, tupO [.str ⟨#[signsS.cps.getD i 0]⟩ ts, .int ((qs.filter fun y => y.2 == (i : Int)).length : Int) (k₇ + 1)]) :: l₂, vs₂ ++ [.ref T], k₃ + 1, rfl, ?_⟩ (X₁₀.perm (by ktn_no "perm_tac"))
      have el : lawEnd qs (i + 1) = lawEnd qs i ++ [(⟨#[signsS.cps.getD i 0]⟩, ((qs.filter fun y => y.2 == (i : Int)).length : Int))] := by
        unfold lawEnd
        rw [List.range_succ, List.map_append]
        rfl
      rw [el]
      exact hD₂.snoc (y := (⟨#[signsS.cps.getD i 0]⟩, ((qs.filter fun y => y.2 == (i : Int)).length : Int)))
  · rintro m₁ cm₁ news s₅ ⟨c3, c4, l₂, vs₂, k₃, rfl, hD₂⟩ G₂
    refine ⟨_, _, _, _, G₂, fun s'' F₇ => ?_⟩
    obtain ⟨h₇, g₇, d₇, k₇, o₇⟩ := s''
    ktn_no "z"
    refine eq_dps (R.less (show 1 ≤ n + 70 by (first | lia | omega))) (ps := lawEnd qs 6) (fun y hy => ?_) (F₇.nw _ (.tail _ (List.mem_append_right _ (.head _)))).1 (F₇.at 0 rfl) (fun p hp => (F₇.nw _ (.tail _ (List.mem_append_right _ (.tail _ (List.mem_append_left _ hp))))).1) (fun p hp => (F₇.nw _ (.tail _ (List.mem_append_left _ hp))).1) hd.dp hD₂ ?_
    · (refine x1_2 (List.mem_map.mp hy) ?_; intro p hp eqX2; subst eqX2)
      have : ∀ p, p < 6 → PyData.strOk (⟨#[signsS.cps.getD p 0]⟩ : PySem.Str) = true := by decide +kernel
      exact this p (List.mem_range.mp hp)
    · exact h _ _ F₇
end
/-- how many of the words go on behind a row of length s -/
noncomputable def more (W s : Int) : List PySem.Str → Nat
  | [] => 0
  | u :: us => if s + u.length ≤ W then more W (s + u.length) us + 1 else 0
theorem lens_snoc (l : List PySem.Str) (v : PySem.Str) : lens (l ++ [v]) = lens l + v.length := by
  unfold lens; simp
theorem fold_more (W : Int) : ∀ (us : List PySem.Str) (done : List (List PySem.Str)) (row : List PySem.Str), row.isEmpty = false →
    us.foldl (gr W) (done, row) = match us.drop (more W (lens row) us) with
      | [] => (done, row ++ us)
      | u :: rest => rest.foldl (gr W) (done ++ [row ++ us.take (more W (lens row) us)], [u])
  | [], done, row, _ => by simp [more]
  | u :: us, done, row, h => by
    rw [List.foldl_cons]
    unfold more
    by_cases q : lens row + u.length ≤ W
    · have e : gr W (done, row) u = (done, row ++ [u]) := by
        unfold gr
        rw [if_neg]
        rw [lens_snoc]
        intro x
        exact absurd x.1 (by dsimp only; (first | lia | omega))
      rw [e, if_pos q, fold_more W us done (row ++ [u]) (by simp), lens_snoc, List.drop_succ_cons]
      cases us.drop (more W (lens row + u.length) us) <;> simp
    · have e : gr W (done, row) u = (done ++ [row], [u]) := by
        unfold gr
        rw [if_pos]
        rw [lens_snoc]
        exact ⟨by dsimp only; (first | lia | omega), h⟩
      rw [e, if_neg q]
      simp
theorem fold_done (W : Int) : ∀ (us : List PySem.Str) (done : List (List PySem.Str)) (row : List PySem.Str),
    us.foldl (gr W) (done, row) = (done ++ (us.foldl (gr W) ([], row)).1, (us.foldl (gr W) ([], row)).2)
  | [], done, row => by simp
  | u :: us, done, row => by
    rw [List.foldl_cons, List.foldl_cons]
    have e : gr W (done, row) u = (done ++ (gr W ([], row) u).1, (gr W ([], row) u).2) := by
      unfold gr
      dsimp only
      split <;> simp
    rw [e, fold_done W us (done ++ _), fold_done W us (gr W ([], row) u).1]
    simp
theorem rowsG_cons (W : Int) (v : PySem.Str) (vs : List PySem.Str) :
    rowsG W (v :: vs) = (v :: vs.take (more W v.length vs)) :: (match vs.drop (more W v.length vs) with | [] => [] | u :: rest => rowsG W (u :: rest)) := by
  have h0 : ∀ (u : PySem.Str) (r : List PySem.Str), rowsG W (u :: r) = (r.foldl (gr W) ([], [u])).1 ++ [(r.foldl (gr W) ([], [u])).2] := fun u r => by
    unfold rowsG
    rw [List.foldl_cons]
    have e : gr W ([], []) u = ([], [u]) := by
      unfold gr; rw [if_neg (by intro h; exact absurd h.2 (by decide))]; rfl
    rw [e]
  rw [h0, fold_more W vs [] [v] rfl]
  have el : lens [v] = v.length := by unfold lens; simp
  rw [el]
  cases hd : vs.drop (more W v.length vs) with
  | nil =>
    have : vs.take (more W v.length vs) = vs := List.take_of_length_le (List.drop_eq_nil_iff.mp hd)
    rw [this]; simp
  | cons u rest =>
    dsimp only
    rw [fold_done, h0]
    simp
noncomputable def cn (W : Int) (ws : List PySem.Str) : List Nat := (rowsG W ws).map List.length
theorem more_le (W : Int) : ∀ (us : List PySem.Str) (s : Int), more W s us ≤ us.length
  | [], s => Nat.le_refl _
  | u :: us, s => by
    unfold more
    have := more_le W us (s + u.length)
    split <;> simp <;> (first | lia | omega)
theorem cn_cons (W : Int) (v : PySem.Str) (vs : List PySem.Str) :
    cn W (v :: vs) = (1 + more W v.length vs) :: (if vs.length ≤ more W v.length vs then [] else cn W (vs.drop (more W v.length vs))) := by
  unfold cn
  rw [rowsG_cons, List.map_cons]
  congr 1
  · have := more_le W vs v.length
    simp [List.length_take]; (first | lia | omega)
  · cases hd : vs.drop (more W v.length vs) with
    | nil => rw [if_pos (List.drop_eq_nil_iff.mp hd)]; rfl
    | cons u rest =>
      rw [if_neg (fun q => by rw [List.drop_eq_nil_iff.mpr q] at hd; cases hd)]
/-- which words a first row takes -/
theorem more_spec (W : Int) : ∀ (us : List PySem.Str) (s : Int) (j : Nat), j < us.length → (j < more W s us ↔ s + lens (us.take (j + 1)) ≤ W)
  | [], s, j, h => by simp at h
  | u :: us, s, j, h => by
    have hl : ∀ l : List PySem.Str, 0 ≤ lens l := fun l => by
      unfold lens
      induction l with
      | nil => simp
      | cons a l ih => simp only [List.map_cons, List.sum_cons]; (first | lia | omega)
    have hc : lens ((u :: us).take (j + 1)) = u.length + lens (us.take j) := by
      unfold lens; simp [List.take_succ_cons]
    rw [hc]
    unfold more
    by_cases q : s + u.length ≤ W
    · rw [if_pos q]
      cases j with
      | zero =>
        have : lens (us.take 0) = 0 := by unfold lens; simp
        rw [this]
        constructor <;> intro _ <;> (first | lia | omega)
      | succ j =>
        rw [Nat.succ_lt_succ_iff, more_spec W us (s + u.length) j (by simpa using h)]
        constructor <;> intro _ <;> (first | lia | omega)
    · rw [if_neg q]
      have := hl (us.take j)
      constructor <;> intro _ <;> (first | lia | omega)
/-- splitting what was joined -/
theorem app_free {c : Nat} : ∀ {a b x y : List Nat}, c ∉ a → c ∉ b → a ++ c :: x = b ++ c :: y → a = b ∧ x = y
  | [], [], x, y, _, _, h => by simp at h; exact ⟨rfl, h⟩
  | [], d :: b, x, y, _, hb, h => by simp at h; exact absurd (h.1 ▸ List.mem_cons_self) hb
  | d :: a, [], x, y, ha, _, h => by simp at h; exact absurd (h.1 ▸ List.mem_cons_self) ha
  | d :: a, e :: b, x, y, ha, hb, h => by
    simp only [List.cons_append, List.cons.injEq] at h
    have := app_free (fun q => ha (.tail _ q)) (fun q => hb (.tail _ q)) h.2
    exact ⟨by rw [h.1, this.1], this.2⟩
theorem app_free1 {c : Nat} {a b y : List Nat} (ha : c ∉ a) (h : a = b ++ c :: y) : False := ha (by rw [h]; simp)
theorem join_inj {c : Nat} : ∀ (as bs : List PySem.Str), as ≠ [] → bs ≠ [] → (∀ a ∈ as, c ∉ a.cps.toList) → (∀ b ∈ bs, c ∉ b.cps.toList) → Str.join ⟨#[c]⟩ as = Str.join ⟨#[c]⟩ bs → as = bs
  | [], _, h, _, _, _, _ => absurd rfl h
  | _, [], _, h, _, _, _ => absurd rfl h
  | [a], [b], _, _, _, _, h => by have h : a = b := h; rw [h]
  | [a], b :: b' :: bs, _, _, ha, _, h => by
    have h := congrArg (fun z : PySem.Str => z.cps.toList) h
    have e : (Str.join ⟨#[c]⟩ (b :: b' :: bs)).cps.toList = b.cps.toList ++ c :: (Str.join ⟨#[c]⟩ (b' :: bs)).cps.toList := by
      show (b ++ (⟨#[c]⟩ : PySem.Str) ++ Str.join ⟨#[c]⟩ (b' :: bs)).cps.toList = _
      simp [Str.cps_append]
    exact (app_free1 (ha a (.head _)) (by rw [← e]; exact h)).elim
  | a :: a' :: as, [b], _, _, _, hb, h => by
    have h := congrArg (fun z : PySem.Str => z.cps.toList) h
    have e : (Str.join ⟨#[c]⟩ (a :: a' :: as)).cps.toList = a.cps.toList ++ c :: (Str.join ⟨#[c]⟩ (a' :: as)).cps.toList := by
      show (a ++ (⟨#[c]⟩ : PySem.Str) ++ Str.join ⟨#[c]⟩ (a' :: as)).cps.toList = _
      simp [Str.cps_append]
    exact (app_free1 (hb b (.head _)) (by rw [← e]; exact h.symm)).elim
  | a :: a' :: as, b :: b' :: bs, _, _, ha, hb, h => by
    have h := congrArg (fun z : PySem.Str => z.cps.toList) h
    have e : ∀ (x y : PySem.Str) (l : List PySem.Str), (Str.join ⟨#[c]⟩ (x :: y :: l)).cps.toList = x.cps.toList ++ c :: (Str.join ⟨#[c]⟩ (y :: l)).cps.toList := fun x y l => by
      show (x ++ (⟨#[c]⟩ : PySem.Str) ++ Str.join ⟨#[c]⟩ (y :: l)).cps.toList = _
      simp [Str.cps_append]
    rw [e, e] at h
    obtain ⟨h1, h2⟩ := app_free (ha a (.head _)) (hb b (.head _)) h
    rw [str_ext h1, join_inj (a' :: as) (b' :: bs) (by simp) (by simp) (fun x hx => ha x (.tail _ hx)) (fun x hx => hb x (.tail _ hx)) (str_ext h2)]
theorem split_ne (x y : PySem.Str) : Txt.split x y ≠ [] := by
  unfold Txt.split
  split
  · simp
  · split
    · simp
    · rw [StrLaws.partsBetween_eq]
      (refine x2_1 (StrLaws.partsFrom_ne x y.length 0 (Builtin.Str.occurrences x y 0 x.length (x.length + 1))) ?_; intro p r e)
      rw [e]; simp
theorem split_of_join {c : Nat} {l : List PySem.Str} (hl : l ≠ []) (h : ∀ a ∈ l, c ∉ a.cps.toList) : Txt.split (Str.join ⟨#[c]⟩ l) ⟨#[c]⟩ = l :=
  join_inj (c := c) _ _ (split_ne _ _) hl (StrLaws.split_free _ c) h (StrLaws.join_split _ _)
theorem wordS_list (k : Nat) : (wordS k).cps.toList = List.replicate k 120 ++ [59] := by
  show (Txt.mul xS k ++ scS).cps.toList = _
  rw [Str.cps_append, Array.toList_append, show xS = ⟨#[120]⟩ by decide, mul_one_list, show scS.cps = #[59] by decide]
  simp
theorem wordS_length (k : Nat) : (wordS k).length = k + 1 := by
  show (wordS k).cps.size = _
  rw [← Array.length_toList, wordS_list]; simp
theorem cnt_app (c : Nat) : ∀ a b : List Nat, cnt c (a ++ b) = cnt c a + cnt c b
  | [], b => by rw [List.nil_append, cnt_nil]; simp
  | x :: a, b => by rw [List.cons_append, cnt_cons, cnt_cons, cnt_app c a b]; (first | lia | omega)
theorem cnt_word (k : Nat) : cnt 59 (wordS k).cps.toList = 1 := by
  rw [wordS_list, cnt_app]
  have : cnt 59 (List.replicate k 120) = 0 := by
    induction k with
    | zero => rfl
    | succ k ih => rw [List.replicate_succ, cnt_cons, ih]; rfl
  rw [this]; rfl
theorem count_row {ks : List Nat} {row : List PySem.Str} (h : ∀ v ∈ row, v ∈ ks.map wordS) : Txt.count (cat row) scS = row.length := by
  rw [show scS = ⟨#[59]⟩ by decide, count_cnt, cat_list]
  induction row with
  | nil => rfl
  | cons v row ih =>
    (refine x1_2 (List.mem_map.mp (h v (.head _))) ?_; intro k _ eqX2; subst eqX2)
    rw [List.flatMap_cons, cnt_app, cnt_word, ih fun u hu => h u (.tail _ hu)]
    simp; (first | lia | omega)
theorem rowV_cn {W : Int} {ks : List Nat} {ws : List PySem.Str} (h : ∀ v ∈ ws, v ∈ ks.map wordS) : rowV W ws = (cn W ws).map fun k : Nat => (k : Int) := by
  unfold rowV
  rw [rowStrs_eq, show nlS = ⟨#[10]⟩ by decide, show Txt.join ⟨#[10]⟩ ((rowsG W ws).map cat) = Str.join ⟨#[10]⟩ ((rowsG W ws).map cat) from StrLaws.glued_eq_join _ _]
  have hmem : ∀ row ∈ rowsG W ws, ∀ v ∈ row, v ∈ ks.map wordS := fun row hr v hv => h v (by
    rw [← rowsG_flat W ws]; exact List.mem_flatten.mpr ⟨row, hr, hv⟩)
  rw [split_of_join]
  · unfold cn
    rw [List.map_map, List.map_map]
    refine List.map_congr_left fun row hr => ?_
    exact count_row (hmem row hr)
  · unfold rowsG; simp
  · intro a ha
    (refine x1_2 (List.mem_map.mp ha) ?_; intro row hr eqX2; subst eqX2)
    rw [cat_list]
    intro q
    (refine x1_2 (List.mem_flatMap.mp q) ?_; intro v hv hc)
    (refine x1_2 (List.mem_map.mp (hmem row hr v hv)) ?_; intro k _ eqX2; subst eqX2)
    rw [wordS_list] at hc
    rcases List.mem_append.mp hc with hc | hc
    · rw [List.mem_replicate] at hc; (first | lia | omega)
    · simp at hc
/-- the next row's first word -/
noncomputable def rN (W : Int) (ks : List Nat) (p : Nat) : Nat := p + 1 + more W ((ks.getD p 0 : Nat) + 1 : Int) ((ks.map wordS).drop (p + 1))
theorem drop_word {ks : List Nat} {p : Nat} (hp : p < ks.length) : (ks.map wordS).drop p = wordS (ks.getD p 0) :: (ks.map wordS).drop (p + 1) := by
  rw [List.drop_eq_getElem_cons (by simpa using hp)]
  simp [List.getD_eq_getElem?_getD, List.getElem?_eq_getElem hp]
theorem cn_drop {W : Int} {ks : List Nat} {p : Nat} (hp : p < ks.length) :
    cn W ((ks.map wordS).drop p) = (rN W ks p - p) :: (if ks.length ≤ rN W ks p then [] else cn W ((ks.map wordS).drop (rN W ks p))) := by
  rw [drop_word hp, cn_cons, wordS_length]
  unfold rN
  push_cast
  congr 1
  · (first | lia | omega)
  · rw [List.length_drop, List.length_map, List.drop_drop]
    by_cases q : ks.length - (p + 1) ≤ more W ((ks.getD p 0 : Nat) + 1 : Int) ((ks.map wordS).drop (p + 1))
    · rw [if_pos q, if_pos (by ktn_no "om")]
    · rw [if_neg q, if_neg (by ktn_no "om")]
theorem rN_le {W : Int} {ks : List Nat} {p : Nat} (hp : p < ks.length) : p < rN W ks p ∧ rN W ks p ≤ ks.length := by
  unfold rN
  have := more_le W ((ks.map wordS).drop (p + 1)) ((ks.getD p 0 : Nat) + 1 : Int)
  rw [List.length_drop, List.length_map] at this
  (first | lia | omega)
/-- what the words from p to q take -/
noncomputable def SS (ks : List Nat) (p q : Nat) : Int := ((((ks.map fun k => ((k + 1 : Nat) : Int)).drop p).take (q + 1 - p))).sum
theorem rN_iff {W : Int} {ks : List Nat} {p q : Nat} (hpq : p < q) (hq : q < ks.length) : q < rN W ks p ↔ SS ks p q ≤ W := by
  have hs := more_spec W ((ks.map wordS).drop (p + 1)) ((ks.getD p 0 : Nat) + 1 : Int) (q - p - 1) (by rw [List.length_drop, List.length_map]; (first | lia | omega))
  have e : SS ks p q = ((ks.getD p 0 : Nat) + 1 : Int) + lens (((ks.map wordS).drop (p + 1)).take (q - p - 1 + 1)) := by
    unfold SS lens
    rw [List.drop_eq_getElem_cons (by simp; (first | lia | omega)), show q + 1 - p = (q - p) + 1 by (first | lia | omega), List.take_succ_cons, List.sum_cons, List.map_take, List.map_drop, List.map_map, show q - p - 1 + 1 = q - p by (first | lia | omega)]
    have e1 : ((fun v : PySem.Str => (v.length : Int)) ∘ wordS) = fun k : Nat => ((k + 1 : Nat) : Int) := funext fun k => by show ((wordS k).length : Int) = _; rw [wordS_length]
    rw [e1]
    simp [List.getD_eq_getElem?_getD, List.getElem?_eq_getElem (show p < ks.length by (first | lia | omega))]
  rw [e, ← hs]
  unfold rN
  (first | lia | omega)
theorem SS_mono {ks : List Nat} {p q : Nat} (hpq : p < q) (hq : q < ks.length) : SS ks (p + 1) q ≤ SS ks p q := by
  have e : SS ks p q = ((ks.getD p 0 : Nat) + 1 : Int) + SS ks (p + 1) q := by
    unfold SS
    rw [List.drop_eq_getElem_cons (by simp; (first | lia | omega)), show q + 1 - p = (q + 1 - (p + 1)) + 1 by (first | lia | omega), List.take_succ_cons, List.sum_cons]
    simp [List.getD_eq_getElem?_getD, List.getElem?_eq_getElem (show p < ks.length by (first | lia | omega))]
  rw [e]; (first | lia | omega)
theorem rN_mono {W : Int} {ks : List Nat} {p : Nat} (hp : p + 1 < ks.length) : rN W ks p ≤ rN W ks (p + 1) := by
  have h1 := rN_le (W := W) (ks := ks) (p := p) (by ktn_no "om")
  have h2 := rN_le (W := W) (ks := ks) (p := p + 1) hp
  by_cases q : rN W ks p ≤ p + 2
  · (first | lia | omega)
  · have h3 := (rN_iff (W := W) (ks := ks) (p := p) (q := rN W ks p - 1) (by ktn_no "om") (by ktn_no "om")).mp (by ktn_no "om")
    have h4 := SS_mono (ks := ks) (p := p) (q := rN W ks p - 1) (by ktn_no "om") (by ktn_no "om")
    have h5 := (rN_iff (W := W) (ks := ks) (p := p + 1) (q := rN W ks p - 1) (by ktn_no "om") (by ktn_no "om")).mpr (by ktn_no "om")
    (first | lia | omega)
noncomputable def chainF (r : List Nat) : Nat → Nat → List Nat
  | 0, _ => []
  | f + 1, p => (r.getD p 0 - p) :: (if 6 ≤ r.getD p 0 then [] else chainF r f (r.getD p 0))
noncomputable def rL (W : Int) (ks : List Nat) : List Nat := (List.range 6).map (rN W ks)
theorem rL_get {W : Int} {ks : List Nat} {p : Nat} (hp : p < 6) : (rL W ks).getD p 0 = rN W ks p := by
  unfold rL; rw [List.getD_eq_getElem?_getD, List.getElem?_map, List.getElem?_range hp]; rfl
theorem cn_chain {W : Int} {ks : List Nat} (h6 : ks.length = 6) : ∀ (f p : Nat), p < 6 → 6 - p ≤ f → cn W ((ks.map wordS).drop p) = chainF (rL W ks) f p
  | 0, p, hp, hf => by (first | lia | omega)
  | f + 1, p, hp, hf => by
    rw [cn_drop (by ktn_no "om")]
    unfold chainF
    rw [rL_get hp, h6]
    congr 1
    by_cases q : 6 ≤ rN W ks p
    · rw [if_pos q, if_pos q]
    · rw [if_neg q, if_neg q]
      have := rN_le (W := W) (ks := ks) (p := p) (by ktn_no "om")
      exact cn_chain h6 f _ (by ktn_no "om") (by ktn_no "om")
theorem drop_mem {ks : List Nat} {p : Nat} : ∀ v ∈ (ks.map wordS).drop p, v ∈ ks.map wordS := fun _ h => List.mem_of_mem_drop h
theorem head_rN {W : Int} {ks : List Nat} {p : Nat} (hp : p < ks.length) : (p : Int) + (rowV W ((ks.map wordS).drop p)).headD 0 = (rN W ks p : Nat) := by
  rw [rowV_cn (ks := ks) drop_mem, cn_drop hp]
  have := rN_le (W := W) (ks := ks) (p := p) hp
  simp only [List.map_cons, List.headD_cons]
  (first | lia | omega)
theorem body_is : body_law = [lawSt 0, lawSt 1, lawSt 2, lawSt 3, lawSt 4, lawSt 5, lawSt 6, lawSt 7, lawSt 8, lawSt 9, lawSt 10, lawSt 11, lawSt 12, lawSt 13, lawSt 14, lawSt 15, lawSt 16] := by kernel_rfl
section
variable {w : World} {A : Around} {E : Value → Shared → Prop} {Q : Value → Shared → Prop} {s₁ : Shared} {n : Nat}
/-- a call of the law, from its first frame on -/
theorem law_call {sa : Addr} (R : Room (n + 71) A) (W : WfB w (hideAll s₁.heap [T1, T2])) (tb : TabOk s₁.heap) (hsz : szTop ≤ s₁.heap.objs.size) (X : (KF w.params).In s₁.heap) (hnl : s₁.heap.NoLimit)
    (h : ∀ L s₂, Fm w (hideAll s₁.heap [T1, T2]) L (envLaw L).cells s₁ (bindL (envLaw L).kindOf [("script", .ref sa)] fun _ => none) (bindC (envLaw L).kindOf [("script", .ref sa)] fun _ => none) [] s₂ → OwnC (hideAll s₁.heap [T1, T2]) (envLaw L).cells → Room (n + 70) (A.deeper (envLaw L)) →
      wpAny (M w) (A.deeper (envLaw L)) (execs body_law (envLaw L)) (fun fl s' => Q (retV fl) s') (fun _ _ => False) s₂) :
    wpAny (M w) A (call (.ref a_law) [.ref sa] []) Q E s₁ := by
  refine wpAny_call (codeAny_call_cells (fd := fd_law) (body := body_law) (binds := [("script", .ref sa)]) R.lt (X _ _ (lk_law _)) rfl hnl (codeRec_of X (cd_law _)) rfl (by rfl) rfl (fun x hx => ?_) (fun s₂ I => ?_) rfl rfl rfl)
  · have hk : ∀ z, ([("script", Value.ref sa)] : List (PySem.Str × Value)).all (fun x => decide (fd_law.scope.names.lookup x.1 = some .local) || (decide (fd_law.scope.names.lookup x.1 = some .cell) && ((cellsFrom z fd_law.scope.names []).lookup x.1).isSome)) = true := fun z => by kernel_rfl
    have := List.all_eq_true.mp (hk (s₁.heap.objs.size + 1)) x hx
    rw [Bool.or_eq_true, Bool.and_eq_true, decide_eq_true_eq, decide_eq_true_eq] at this
    exact this
  have IC := I.toInCall
  (refine x2_1 (IC.same) ?_; intro h₁ tk eqX2; subst eqX2)
  have hz : s₁.heap.objs.size < h₁.objs.size := IC.ns.lt
  have hnone : ∀ c, s₁.heap.objs.size ≤ c → (hideAll s₁.heap [T1, T2]).get? c = none := fun c hc => by
    cases q : (hideAll s₁.heap [T1, T2]).get? c with
    | none => rfl
    | some o => exact absurd (Heap.lt_size q) (by rw [hideAll_size]; exact Nat.not_lt.mpr hc)
  have hab : ∀ nm c, (envLaw s₁.heap.objs.size).cells.lookup nm = some c → s₁.heap.objs.size < c := fun nm c e => I.above nm c (mem_of_lookup e)
  have F₀ : Fm w (hideAll s₁.heap [T1, T2]) s₁.heap.objs.size (envLaw s₁.heap.objs.size).cells s₁ (bindL (envLaw s₁.heap.objs.size).kindOf [("script", .ref sa)] fun _ => none) (bindC (envLaw s₁.heap.objs.size).kindOf [("script", .ref sa)] fun _ => none) [] { s₁ with heap := h₁, toks := tk } := {
    wf := W
    ns := IC.ns
    keep := fun b o e => IC.keep b o (of_hideAll _ e)
    above := ⟨hnone _ (Nat.le_refl _), hsz⟩
    nw := fun p hp => by cases hp
    nd := List.nodup_nil
    ce := I.cell
    cd := fun nm c e => ⟨Nat.ne_of_gt (hab nm c e), (fun q => by cases q), fun t => absurd (tab_lt t) (Nat.not_lt.mpr (Nat.le_trans hsz (Nat.le_of_lt (hab nm c e))))⟩
    cp := fun n n' c e e' => name_of_addr I.apart (mem_of_lookup e) (mem_of_lookup e')
    tb := tb.keeps IC.keep
    rl := ⟨rfl, fun _ _ e => e, id, fun t _ ps e => ⟨#[], by simpa using IC.keep _ _ e⟩, trivial⟩ }
  refine wpAny_mono (h s₁.heap.objs.size _ F₀ (fun nm c e => ⟨hnone c (Nat.le_of_lt (hab nm c e)), Nat.le_trans hsz (Nat.le_of_lt (hab nm c e))⟩) R.deeper) (fun fl s' hb => ?_) (fun _ _ x => x.elim)
  cases fl <;> exact hb
end
noncomputable def stripOkB (x : PySem.Str) : Bool := x.cps.all (· < 128) && (decide (x.length ≤ 10000) && JoinOk (⟨#[]⟩ : PySem.Str) (stripEnd x ((units x).foldl (stripStep x) (0, none, []))))
theorem stripOk_of {x : PySem.Str} (h : stripOkB x = true) : StripOk x := by
  unfold stripOkB at h
  rw [Bool.and_eq_true, Bool.and_eq_true, decide_eq_true_eq] at h
  exact ⟨h.1, h.2.1, h.2.2⟩
noncomputable def checkB (x : PySem.Str) : Bool := stripOkB x && ((stripF x).cps.all (· < 128) && checkF x)
noncomputable def hooksR (r : List Int) : List Int := (List.range 6).map (hookOf r)
noncomputable def permB (l : List Int) : Bool := decide (l.Perm [0, 1, 2, 3, 4, 5])
noncomputable def nearR (r : List Nat) : List (Int × Int) := allPairs (fun a b => decide (b < r.getD a 0)) 6
/-- each end of a line as a return and a feed -/
noncomputable def crlS : Bool → List Nat → List Nat
  | _, [] => []
  | cr, c :: r => if c = 10 then (if cr then crlS false r else 13 :: 10 :: crlS false r) else if c = 13 then 13 :: 10 :: crlS true r else c :: crlS false r
/-- a dot at a line's head twice -/
noncomputable def dotl : Bool → List Nat → List Nat
  | _, [] => []
  | b, c :: r => if b && c == 46 then 46 :: 46 :: dotl false r else c :: dotl (c == 10) r
noncomputable def quoteZ (x : PySem.Str) : PySem.Str := ⟨(dotl true (crlS false x.cps.toList)).toArray⟩
theorem drop_at {x : Array Nat} {s : Nat} (h : s < x.size) : x.toList.drop s = x.getD s 0 :: x.toList.drop (s + 1) := by
  rw [List.drop_eq_getElem_cons (by simpa using h)]
  simp [Array.getD, h]
theorem f2_spec (x : Array Nat) : ∀ (k s : Nat), s ≤ x.size → x.size + 1 - s ≤ k → match first2 x k s with
    | some t => s ≤ t ∧ t < x.size ∧ nl (x.getD t 0) = true ∧ crlS false (x.toList.drop s) = (x.toList.drop s).take (t - s) ++ crlS false (x.toList.drop t)
    | none => crlS false (x.toList.drop s) = x.toList.drop s
  | 0, s, hs, hk => by (first | lia | omega)
  | k + 1, s, hs, hk => by
    unfold first2
    by_cases h1 : s ≥ x.size
    · rw [if_pos h1]
      have : x.toList.drop s = [] := List.drop_eq_nil_iff.mpr (by simpa using h1)
      dsimp only
      rw [this]; rfl
    · rw [if_neg h1]
      by_cases h2 : nl (x.getD s 0) = true
      · rw [if_pos h2]
        refine ⟨Nat.le_refl _, by (first | lia | omega), h2, ?_⟩
        simp
      · rw [if_neg h2]
        have ih := f2_spec x k (s + 1) (by ktn_no "om") (by ktn_no "om")
        have hd := drop_at (x := x) (s := s) (by ktn_no "om")
        have hc : crlS false (x.toList.drop s) = x.getD s 0 :: crlS false (x.toList.drop (s + 1)) := by
          rw [hd]
          have h3 : x.getD s 0 ≠ 10 ∧ x.getD s 0 ≠ 13 := by
            unfold nl at h2
            simp at h2
            simpa using h2
          conv => lhs; unfold crlS
          rw [if_neg h3.1, if_neg h3.2]
        cases hf : first2 x k (s + 1) with
        | none =>
          rw [hf] at ih
          dsimp only at ih ⊢
          rw [hc, ih, ← hd]
        | some t =>
          rw [hf] at ih
          dsimp only at ih ⊢
          (refine x0_4 (ih) ?_; try clear ih; intro a b c e)
          refine ⟨by (first | lia | omega), b, c, ?_⟩
          rw [hc, e, hd, show t - s = (t - (s + 1)) + 1 by (first | lia | omega), List.take_succ_cons]
          rfl
theorem crlS_true {l : List Nat} (h : l.head? ≠ some 10) : crlS true l = crlS false l := by
  cases l with
  | nil => rfl
  | cons c r =>
    have : c ≠ 10 := fun e => h (by rw [e]; rfl)
    conv => lhs; unfold crlS
    conv => rhs; unfold crlS
    rw [if_neg this, if_neg this]
theorem crl_at {x : Array Nat} {t : Nat} (ht : t < x.size) (h : nl (x.getD t 0) = true) : crlS false (x.toList.drop t) = 13 :: 10 :: crlS false (x.toList.drop (end2 x t)) := by
  rw [drop_at ht]
  unfold nl at h
  rw [Bool.or_eq_true, beq_iff_eq, beq_iff_eq] at h
  conv => lhs; unfold crlS
  rcases h with h | h
  · rw [h, if_pos rfl, if_neg Bool.false_ne_true]
    unfold end2
    rw [h, if_neg (by simp)]
  · rw [h, if_neg (by decide), if_pos rfl]
    unfold end2
    rw [h]
    by_cases q : t + 1 < x.size ∧ (x.getD (t + 1) 0 == 10) = true
    · rw [if_pos ⟨rfl, q⟩, drop_at q.1, beq_iff_eq.mp q.2]
      conv => lhs; unfold crlS
      rw [if_pos rfl, if_pos rfl]
    · rw [if_neg (fun z => q z.2)]
      rw [crlS_true]
      intro e
      apply q
      by_cases h2 : t + 1 < x.size
      · rw [drop_at h2] at e
        simp only [List.head?_cons, Option.some.injEq] at e
        exact ⟨h2, by rw [beq_iff_eq]; exact e⟩
      · rw [List.drop_eq_nil_iff.mpr (by simpa using h2)] at e
        cases e
theorem end2_le {x : Array Nat} {t : Nat} (ht : t < x.size) : t < end2 x t ∧ end2 x t ≤ x.size := by
  unfold end2
  by_cases q : (x.getD t 0 == 13) = true ∧ t + 1 < x.size ∧ (x.getD (t + 1) 0 == 10) = true
  · rw [if_pos q]; (first | lia | omega)
  · rw [if_neg q]; (first | lia | omega)
theorem ext_list (x : Array Nat) (a b : Nat) : (x.extract a b).toList = (x.toList.drop a).take (b - a) := by simp
theorem cat_cons (p : PySem.Str) (l : List PySem.Str) : (cat (p :: l)).cps.toList = p.cps.toList ++ (cat l).cps.toList := by
  rw [cat_list, cat_list]; rfl
theorem crlf_list : crlfS.cps.toList = [13, 10] := by decide
theorem dots_list : dotsS.cps.toList = [46, 46] := by decide
theorem sub_crl (x : PySem.Str) : ∀ (k dn : Nat), dn ≤ x.cps.size → x.cps.size + 1 - dn ≤ k → (cat (subGo (find2 x.cps) x crlfS k dn)).cps.toList = crlS false (x.cps.toList.drop dn)
  | 0, dn, h, hk => by (first | lia | omega)
  | k + 1, dn, h, hk => by
    unfold subGo
    have fin : crlS false (x.cps.toList.drop dn) = x.cps.toList.drop dn → (cat (if dn < x.cps.size then [⟨x.cps.extract dn x.cps.size⟩] else [])).cps.toList = crlS false (x.cps.toList.drop dn) := fun e => by
      rw [e]
      by_cases q : dn < x.cps.size
      · rw [if_pos q, cat_cons, ext_list, cat_nil, List.take_of_length_le (by simp)]
        simp
      · rw [if_neg q, cat_nil, List.drop_eq_nil_iff.mpr (by simpa using q)]
    by_cases hlt : dn < x.cps.size
    · have hf : find2 x.cps dn = (first2 x.cps (x.cps.size + 1 - dn) dn).map fun t => (t, end2 x.cps t) := by unfold find2; rw [if_pos hlt]
      have sp := f2_spec x.cps (x.cps.size + 1 - dn) dn h (Nat.le_refl _)
      rw [hf]
      cases hq : first2 x.cps (x.cps.size + 1 - dn) dn with
      | none =>
        rw [hq] at sp
        exact fin sp
      | some t =>
        rw [hq] at sp
        (refine x0_4 (sp) ?_; try clear sp; intro a b c e)
        dsimp only [Option.map]
        have hb := end2_le b
        have ih := sub_crl x k (end2 x.cps t) hb.2 (by ktn_no "om")
        rw [e, crl_at b c]
        by_cases q : dn < t
        · rw [if_pos q]
          show (cat (⟨x.cps.extract dn t⟩ :: crlfS :: _)).cps.toList = _
          rw [cat_cons, cat_cons, ih, crlf_list, ext_list]
          rfl
        · rw [if_neg q]
          have : t = dn := by (first | lia | omega)
          subst this
          show (cat (crlfS :: _)).cps.toList = _
          rw [cat_cons, ih, crlf_list]
          simp
    · have hf : find2 x.cps dn = none := by unfold find2; rw [if_neg hlt]
      rw [hf]
      refine fin ?_
      rw [List.drop_eq_nil_iff.mpr (by simpa using hlt)]
      rfl
theorem find1_spec (x : Array Nat) : ∀ (k s : Nat), s ≤ x.size → x.size + 1 - s ≤ k → match find1 x k s with
    | some (a, b) => s ≤ a ∧ a < x.size ∧ b = a + 1 ∧ dotl (bol x s) (x.toList.drop s) = (x.toList.drop s).take (a - s) ++ 46 :: 46 :: dotl (bol x b) (x.toList.drop b)
    | none => dotl (bol x s) (x.toList.drop s) = x.toList.drop s
  | 0, s, hs, hk => by (first | lia | omega)
  | k + 1, s, hs, hk => by
    unfold find1
    have hbol : bol x (s + 1) = (x.getD s 0 == 10) := by unfold bol; simp
    by_cases h1 : hit1 x s = true
    · rw [if_pos h1]
      unfold hit1 at h1
      rw [Bool.and_eq_true, Bool.and_eq_true, decide_eq_true_eq, beq_iff_eq] at h1
      (refine x0_3 (h1) ?_; try clear h1; intro p1 p2 p3)
      refine ⟨Nat.le_refl _, p2, rfl, ?_⟩
      rw [drop_at p2, p3, p1, hbol, p3]
      simp [dotl]
    · rw [if_neg h1]
      by_cases h2 : s < x.size
      · rw [if_pos h2]
        have ih := find1_spec x k (s + 1) (by ktn_no "om") (by ktn_no "om")
        have hd := drop_at (x := x) (s := s) h2
        have hc : dotl (bol x s) (x.toList.drop s) = x.getD s 0 :: dotl (bol x (s + 1)) (x.toList.drop (s + 1)) := by
          rw [hd, hbol]
          conv => lhs; unfold dotl
          rw [if_neg]
          intro z
          rw [Bool.and_eq_true] at z
          exact h1 (by unfold hit1; rw [z.1, z.2, decide_eq_true h2]; rfl)
        cases hf : find1 x k (s + 1) with
        | none =>
          rw [hf] at ih
          dsimp only at ih ⊢
          rw [hc, ih, ← hd]
        | some p =>
          obtain ⟨a, b⟩ := p
          rw [hf] at ih
          dsimp only at ih ⊢
          (refine x0_4 (ih) ?_; try clear ih; intro q1 q2 q3 e)
          refine ⟨by (first | lia | omega), q2, q3, ?_⟩
          rw [hc, e, hd, show a - s = (a - (s + 1)) + 1 by (first | lia | omega), List.take_succ_cons]
          rfl
      · rw [if_neg h2]
        dsimp only
        rw [List.drop_eq_nil_iff.mpr (by simpa using h2)]
        cases bol x s <;> rfl
theorem sub_dot (x : PySem.Str) : ∀ (k dn : Nat), dn ≤ x.cps.size → x.cps.size + 1 - dn ≤ k → (cat (subGo (find1' x.cps) x dotsS k dn)).cps.toList = dotl (bol x.cps dn) (x.cps.toList.drop dn)
  | 0, dn, h, hk => by (first | lia | omega)
  | k + 1, dn, h, hk => by
    unfold subGo
    have fin : dotl (bol x.cps dn) (x.cps.toList.drop dn) = x.cps.toList.drop dn → (cat (if dn < x.cps.size then [⟨x.cps.extract dn x.cps.size⟩] else [])).cps.toList = dotl (bol x.cps dn) (x.cps.toList.drop dn) := fun e => by
      rw [e]
      by_cases q : dn < x.cps.size
      · rw [if_pos q, cat_cons, ext_list, cat_nil, List.take_of_length_le (by simp)]
        simp
      · rw [if_neg q, cat_nil, List.drop_eq_nil_iff.mpr (by simpa using q)]
    by_cases hlt : dn < x.cps.size
    · have hf : find1' x.cps dn = find1 x.cps (x.cps.size - dn + 1) dn := by unfold find1'; rw [if_pos hlt]
      have sp := find1_spec x.cps (x.cps.size - dn + 1) dn h (by ktn_no "om")
      rw [hf]
      cases hq : find1 x.cps (x.cps.size - dn + 1) dn with
      | none =>
        rw [hq] at sp
        exact fin sp
      | some p =>
        obtain ⟨t, b⟩ := p
        rw [hq] at sp
        (refine x0_4 (sp) ?_; try clear sp; intro a b' eqX2 e; subst eqX2)
        dsimp only
        have ih := sub_dot x k (t + 1) (by ktn_no "om") (by ktn_no "om")
        rw [e]
        by_cases q : dn < t
        · rw [if_pos q]
          show (cat (⟨x.cps.extract dn t⟩ :: dotsS :: _)).cps.toList = _
          rw [cat_cons, cat_cons, ih, dots_list, ext_list]
          rfl
        · rw [if_neg q]
          have : t = dn := by (first | lia | omega)
          subst this
          show (cat (dotsS :: _)).cps.toList = _
          rw [cat_cons, ih, dots_list]
          simp
    · have hf : find1' x.cps dn = none := by unfold find1'; rw [if_neg hlt]
      rw [hf]
      refine fin ?_
      rw [List.drop_eq_nil_iff.mpr (by simpa using hlt)]
      cases bol x.cps dn <;> rfl
theorem sub_count (find : Nat → Option (Nat × Nat)) (x rp : PySem.Str) : ∀ (k dn : Nat), (subGo find x rp k dn).length ≤ 2 * k
  | 0, _ => Nat.zero_le _
  | k + 1, dn => by
    unfold subGo
    split
    · rename_i a b _
      have := sub_count find x rp k b
      split <;> simp <;> (first | lia | omega)
    · split <;> simp <;> (first | lia | omega)
theorem sub_piece (find : Nat → Option (Nat × Nat)) (x rp : PySem.Str) {N : Nat} (h1 : x.length ≤ N) (h2 : rp.length ≤ N) : ∀ (k dn : Nat), ∀ y ∈ subGo find x rp k dn, y.length ≤ N
  | 0, _, y, h => by cases h
  | k + 1, dn, y, h => by
    have he : ∀ a b, ((⟨x.cps.extract a b⟩ : PySem.Str).length) ≤ N := fun a b => by
      show (x.cps.extract a b).size ≤ N
      have : x.length = x.cps.size := rfl
      simp; (first | lia | omega)
    unfold subGo at h
    split at h
    · rename_i a b _
      rcases List.mem_append.mp h with h | h
      · split at h
        · simp at h; rw [h]; exact he _ _
        · cases h
      · rcases List.mem_cons.mp h with rfl | h
        · exact h2
        · exact sub_piece find x rp h1 h2 k b y h
    · split at h
      · simp at h; rw [h]; exact he _ _
      · cases h
theorem crlS_len : ∀ (l : List Nat) (b : Bool), (crlS b l).length ≤ 2 * l.length
  | [], b => by cases b <;> exact Nat.le_refl _
  | c :: r, b => by
    have h1 := crlS_len r false
    have h2 := crlS_len r true
    unfold crlS
    split
    · split <;> simp <;> (first | lia | omega)
    · split <;> simp <;> (first | lia | omega)
theorem quote_fast {x : PySem.Str} (h : x.length ≤ 1000) : QOk x ∧ quoteF x = quoteZ x := by
  have j1 : quote1 x = ⟨(crlS false x.cps.toList).toArray⟩ := by
    unfold quote1
    rw [show Txt.join ⟨#[]⟩ (subGo (find2 x.cps) x crlfS (x.cps.size + 1) 0) = Str.join ⟨#[]⟩ (subGo (find2 x.cps) x crlfS (x.cps.size + 1) 0) from StrLaws.glued_eq_join _ _, join_nil_cat]
    refine str_ext ?_
    rw [sub_crl x _ 0 (Nat.zero_le _) (by ktn_no "om")]
    simp
  have hl1 : (quote1 x).length ≤ 2000 := by
    rw [j1]
    show (crlS false x.cps.toList).toArray.size ≤ 2000
    have := crlS_len x.cps.toList false
    have e : x.length = x.cps.size := rfl
    simp at this ⊢
    (first | lia | omega)
  have j2 : quote2 (quote1 x) = quoteZ x := by
    unfold quote2
    rw [show Txt.join ⟨#[]⟩ (subGo (find1' (quote1 x).cps) (quote1 x) dotsS ((quote1 x).cps.size + 1) 0) = Str.join ⟨#[]⟩ (subGo (find1' (quote1 x).cps) (quote1 x) dotsS ((quote1 x).cps.size + 1) 0) from StrLaws.glued_eq_join _ _, join_nil_cat]
    refine str_ext ?_
    rw [sub_dot _ _ 0 (Nat.zero_le _) (by ktn_no "om"), j1]
    simp [quoteZ, bol]
  have jok : ∀ (find : Nat → Option (Nat × Nat)) (y rp : PySem.Str), y.length ≤ 2000 → rp.length ≤ 2000 → JoinOk ⟨#[]⟩ (subGo find y rp (y.cps.size + 1) 0) = true := fun find y rp hy hr => by
    unfold JoinOk
    rw [StrLaws.joinFits (B := 2000) (fun z hz => sub_piece find y rp hy hr _ _ z hz) (by
      have := sub_count find y rp (y.cps.size + 1) 0
      have e : y.length = y.cps.size := rfl
      have e2 : (⟨#[]⟩ : PySem.Str).length = 0 := rfl
      rw [e2]; (first | lia | omega))]
    rfl
  exact ⟨⟨by (first | lia | omega), jok _ _ _ (by ktn_no "om") (by decide), by (first | lia | omega), jok _ _ _ hl1 (by decide)⟩, j2⟩
open PySem.Builtin.Str in
theorem part_free2 (x : PySem.Str) (a b : Nat) (hb : b ≤ x.length) (hn : ∀ k, a ≤ k → k < b → ¬ StrLaws.At x ⟨#[13, 10]⟩ x.length k) : ∀ u v, (strSub x a b).cps.toList ≠ u ++ 13 :: 10 :: v := by
  intro u v e
  rw [StrLaws.strSub_toList] at e
  have hl := congrArg List.length e
  simp only [List.length_take, List.length_drop, List.length_append, List.length_cons] at hl
  have h1 := congrArg (List.drop u.length) e
  rw [List.drop_take, List.drop_drop] at h1
  simp only [List.drop_left] at h1
  have h2 : (x.cps.toList.drop (a + u.length)).take 2 = [13, 10] := by
    have h3 := congrArg (List.take 2) h1
    rw [List.take_take] at h3
    have : min 2 (b - a - u.length) = 2 := by (first | lia | omega)
    rw [this] at h3
    exact h3
  refine hn (a + u.length) (by ktn_no "om") (by ktn_no "om") ⟨?_, ?_⟩
  · show a + u.length + 2 ≤ x.length
    (first | lia | omega)
  · rw [StrLaws.subAt_eq]
    show ((x.cps.toList.drop (a + u.length)).take 2 == [13, 10]) = true
    rw [h2]; rfl
theorem parts_free2 (x : PySem.Str) : ∀ (cuts : List Nat) (a f : Nat), StrLaws.ChainG x ⟨#[13, 10]⟩ x.length a cuts f → (∀ k, f ≤ k → ¬ StrLaws.At x ⟨#[13, 10]⟩ x.length k) → ∀ p ∈ StrLaws.partsFrom x (⟨#[13, 10]⟩ : PySem.Str).length a cuts, ∀ u v, p.cps.toList ≠ u ++ 13 :: 10 :: v
  | [], a, f, h, hn, p, hp => by
    have e : f = a := h
    subst e
    rw [List.mem_singleton.mp hp]
    exact part_free2 x f x.length (Nat.le_refl _) fun k h1 _ => hn k h1
  | d :: r, a, f, h, hn, p, hp => by
    rcases List.mem_cons.mp hp with rfl | hp'
    · exact part_free2 x a d (by have := h.2.1.1; (first | lia | omega)) h.2.2.1
    · exact parts_free2 x r _ f h.2.2.2 hn p hp'
theorem split_free2 (x : PySem.Str) : ∀ p ∈ Txt.split x ⟨#[13, 10]⟩, ∀ u v, p.cps.toList ≠ u ++ 13 :: 10 :: v := by
  (refine x1_2 (StrLaws.occ_tight x ⟨#[13, 10]⟩ (by decide)) ?_; intro f hG hn)
  unfold Txt.split
  split
  · rename_i hc
    intro p hp
    rw [List.mem_singleton.mp hp]
    intro u v e
    have hl := congrArg List.length e
    simp only [List.length_append, List.length_cons] at hl
    have hx : x.cps.toList.length = x.length := by simp; rfl
    rw [Bool.or_eq_true, decide_eq_true_eq, decide_eq_true_eq] at hc
    rcases hc with h | h
    · have : (⟨#[13, 10]⟩ : PySem.Str).length = 2 := rfl
      (first | lia | omega)
    · exfalso
      have h1 : PySem.Builtin.Str.strKind (⟨#[13, 10]⟩ : PySem.Str) = 1 := by decide +kernel
      rw [h1] at h
      unfold PySem.Builtin.Str.strKind at h
      split at h
      · (first | lia | omega)
      · split at h <;> (first | lia | omega)
  · split
    · rename_i he
      intro p hp
      rw [List.mem_singleton.mp hp]
      have e0 := List.isEmpty_iff.mp he
      rw [e0] at hG
      have ef : f = 0 := hG
      subst ef
      rw [← StrLaws.sub_whole x]
      exact part_free2 x 0 x.length (Nat.le_refl _) fun k h1 _ => hn k h1
    · rw [StrLaws.partsBetween_eq]
      exact parts_free2 x _ 0 f hG hn
theorem app_free2 : ∀ {a b x y : List Nat}, (∀ u v, a ≠ u ++ 13 :: 10 :: v) → 13 ∉ b → a ++ 13 :: 10 :: x = b ++ 13 :: 10 :: y → a = b ∧ x = y
  | [], [], x, y, _, _, h => by simp at h; exact ⟨rfl, h⟩
  | [], d :: b, x, y, _, hb, h => by simp at h; exact absurd (h.1 ▸ List.mem_cons_self) hb
  | [d], [], x, y, _, _, h => by simp at h
  | d :: e :: a, [], x, y, ha, _, h => by
    simp at h
    exact absurd (by rw [h.1, h.2.1]; rfl) (ha [] a)
  | d :: a, e :: b, x, y, ha, hb, h => by
    simp only [List.cons_append, List.cons.injEq] at h
    have := app_free2 (fun u v q => ha (d :: u) v (by rw [q]; rfl)) (fun q => hb (.tail _ q)) h.2
    exact ⟨by rw [h.1, this.1], this.2⟩
theorem join_inj2 : ∀ (as bs : List PySem.Str), as ≠ [] → bs ≠ [] → (∀ a ∈ as, ∀ u v, a.cps.toList ≠ u ++ 13 :: 10 :: v) → (∀ b ∈ bs, 13 ∉ b.cps.toList) → Str.join ⟨#[13, 10]⟩ as = Str.join ⟨#[13, 10]⟩ bs → as = bs
  | [], _, h, _, _, _, _ => absurd rfl h
  | _, [], _, h, _, _, _ => absurd rfl h
  | [a], [b], _, _, _, _, h => by have h : a = b := h; rw [h]
  | [a], b :: b' :: bs, _, _, ha, _, h => by
    have h := congrArg (fun z : PySem.Str => z.cps.toList) h
    have e : (Str.join ⟨#[13, 10]⟩ (b :: b' :: bs)).cps.toList = b.cps.toList ++ 13 :: 10 :: (Str.join ⟨#[13, 10]⟩ (b' :: bs)).cps.toList := by
      show (b ++ (⟨#[13, 10]⟩ : PySem.Str) ++ Str.join ⟨#[13, 10]⟩ (b' :: bs)).cps.toList = _
      simp [Str.cps_append]
    exact (ha a (.head _) _ _ (by rw [← e]; exact h)).elim
  | a :: a' :: as, [b], _, _, _, hb, h => by
    have h := congrArg (fun z : PySem.Str => z.cps.toList) h
    have e : (Str.join ⟨#[13, 10]⟩ (a :: a' :: as)).cps.toList = a.cps.toList ++ 13 :: 10 :: (Str.join ⟨#[13, 10]⟩ (a' :: as)).cps.toList := by
      show (a ++ (⟨#[13, 10]⟩ : PySem.Str) ++ Str.join ⟨#[13, 10]⟩ (a' :: as)).cps.toList = _
      simp [Str.cps_append]
    exact (hb b (.head _) (by
      have h' : b.cps.toList = a.cps.toList ++ 13 :: 10 :: (Str.join ⟨#[13, 10]⟩ (a' :: as)).cps.toList := by rw [← e]; exact h.symm
      rw [h']; simp)).elim
  | a :: a' :: as, b :: b' :: bs, _, _, ha, hb, h => by
    have h := congrArg (fun z : PySem.Str => z.cps.toList) h
    have e : ∀ (x y : PySem.Str) (l : List PySem.Str), (Str.join ⟨#[13, 10]⟩ (x :: y :: l)).cps.toList = x.cps.toList ++ 13 :: 10 :: (Str.join ⟨#[13, 10]⟩ (y :: l)).cps.toList := fun x y l => by
      show (x ++ (⟨#[13, 10]⟩ : PySem.Str) ++ Str.join ⟨#[13, 10]⟩ (y :: l)).cps.toList = _
      simp [Str.cps_append]
    rw [e, e] at h
    obtain ⟨h1, h2⟩ := app_free2 (ha a (.head _)) (hb b (.head _)) h
    rw [str_ext h1, join_inj2 (a' :: as) (b' :: bs) (by simp) (by simp) (fun x hx => ha x (.tail _ hx)) (fun x hx => hb x (.tail _ hx)) (str_ext h2)]
/-- a text cut at each return with a feed -/
noncomputable def cutZ : List Nat → List Nat → List (List Nat)
  | cur, [] => [cur.reverse]
  | cur, [c] => [(c :: cur).reverse]
  | cur, c :: d :: r => if c == 13 && d == 10 then cur.reverse :: cutZ [] r else cutZ (c :: cur) (d :: r)
noncomputable def cutStrs (x : PySem.Str) : List PySem.Str := (cutZ [] x.cps.toList).map fun l => ⟨l.toArray⟩
theorem cut_ne : ∀ (l cur : List Nat), cutZ cur l ≠ []
  | [], _ => by simp [cutZ]
  | [c], _ => by simp [cutZ]
  | c :: d :: r, cur => by
    unfold cutZ
    split
    · simp
    · exact cut_ne (d :: r) (c :: cur)
theorem split_cut {x : PySem.Str} (h1 : Str.join ⟨#[13, 10]⟩ (cutStrs x) = x) (h2 : ((cutStrs x).all fun p => !p.cps.toList.contains 13) = true) : Txt.split x ⟨#[13, 10]⟩ = cutStrs x :=
  join_inj2 _ _ (split_ne _ _) (by unfold cutStrs; simp [cut_ne]) (split_free2 x) (fun b hb => by
    have := List.all_eq_true.mp h2 b hb
    simpa using this) ((StrLaws.join_split x _).trans h1.symm)
noncomputable abbrev LL := List Nat × List Nat
noncomputable def toS (p : LL) : PySem.Str × PySem.Str := (⟨p.1.toArray⟩, ⟨p.2.toArray⟩)
noncomputable def lastP (st : List LL) : LL := st.getLastD ([], [])
noncomputable def quoteL (l : List Nat) : List Nat := dotl true (crlS false l)
noncomputable def closeL (st : List LL) : List Nat := (lastP st.dropLast).2 ++ 46 :: ((lastP st).1 ++ (if (lastP st).1 = [40] then 13 else 10) :: quoteL (lastP st).2)
noncomputable def stepL (st : List LL) (u : List Nat) : Option (List LL) :=
  if st.length ≤ 800 then
    if u = [40] then some (st ++ [([], [])])
    else if u = [41] then
      if (lastP st.dropLast).2.length ≤ 1000 ∧ (lastP st).1.length ≤ 1000 ∧ (lastP st).2.length ≤ 1000 then some (st.dropLast.dropLast ++ [((lastP st.dropLast).1, closeL st)]) else none
    else match u with
      | [92, c] => some (st.dropLast ++ [([c], [])])
      | _ => none
  else none
noncomputable def runL : List (Nat × PySem.Str) → List LL → Option (List LL)
  | [], st => some st
  | u :: us, st => match stepL st u.2.cps.toList with
    | some st' => runL us st'
    | none => none
theorem top_toS (st : List LL) : topOf (st.map toS) = toS (lastP st) := by
  unfold topOf lastP
  cases h : st.getLast? with
  | none => rw [List.getLast?_eq_none_iff.mp h]; decide
  | some p =>
    rw [List.getLastD_eq_getLast?, List.getLastD_eq_getLast?, List.getLast?_map, h]; rfl
theorem drop_toS (st : List LL) : (st.map toS).dropLast = st.dropLast.map toS := by rw [List.map_dropLast]
theorem quote_toS (l : List Nat) : quoteZ ⟨l.toArray⟩ = ⟨(quoteL l).toArray⟩ := by unfold quoteZ quoteL; rfl
theorem dotl_len : ∀ (l : List Nat) (b : Bool), (dotl b l).length ≤ 2 * l.length
  | [], b => by cases b <;> exact Nat.le_refl _
  | c :: r, b => by
    have h1 := dotl_len r false
    have h2 := dotl_len r (c == 10)
    unfold dotl
    split <;> simp <;> (first | lia | omega)
theorem str_len (l : List Nat) : (⟨l.toArray⟩ : PySem.Str).length = l.length := by show l.toArray.size = _; simp
theorem str_is {u : PySem.Str} {l : List Nat} (h : u.cps.toList = l) : u = ⟨l.toArray⟩ := str_ext (by rw [h])
theorem close_toS (st : List LL) (hl : (lastP st).2.length ≤ 1000) : closeS (st.map toS) = ⟨(closeL st).toArray⟩ := by
  unfold closeS
  rw [drop_toS, top_toS, top_toS]
  have hq : quoteF (toS (lastP st)).2 = ⟨(quoteL (lastP st).2).toArray⟩ := by
    rw [(quote_fast (x := (toS (lastP st)).2) (by show (⟨(lastP st).2.toArray⟩ : PySem.Str).length ≤ 1000; rw [str_len]; exact hl)).2]
    exact quote_toS _
  rw [hq]
  have hd : dotS.cps.toList = [46] := by decide
  have hb : ((toS (lastP st)).1 == cOp) = decide ((lastP st).1 = [40]) := by
    have e : cOp = ⟨([40] : List Nat).toArray⟩ := by decide
    rw [e]
    by_cases q : (lastP st).1 = [40]
    · rw [decide_eq_true q]
      show (((⟨(lastP st).1.toArray⟩ : PySem.Str)) == _) = true
      rw [q]; decide
    · rw [decide_eq_false q]
      rw [beq_eq_false_iff_ne]
      intro z
      apply q
      have := congrArg (fun z : PySem.Str => z.cps.toList) z
      simpa [toS] using this
  have hn : nlS.cps.toList = [10] := by decide
  have hr : crS.cps.toList = [13] := by decide
  refine str_ext ?_
  rw [hb]
  unfold closeL
  by_cases q : (lastP st).1 = [40]
  · rw [decide_eq_true q, if_pos rfl, if_pos q]
    simp [Str.cps_append, toS, hd, hr]
  · rw [decide_eq_false q, if_neg Bool.false_ne_true, if_neg q]
    simp [Str.cps_append, toS, hd, hn]
theorem stepL_ok {st st' : List LL} {u : PySem.Str} (h : stepL st u.cps.toList = some st') : stepOk (st.map toS) u ∧ mailStep (st.map toS) u = st'.map toS := by
  unfold stepL at h
  split at h
  case isFalse => cases h
  case isTrue h8 =>
  have hz : (st.map toS).length ≤ 800 := by rw [List.length_map]; exact h8
  have eO : cOp = ⟨([40] : List Nat).toArray⟩ := by decide
  have eC : cCl = ⟨([41] : List Nat).toArray⟩ := by decide
  split at h
  case isTrue hu =>
    have h := Option.some.inj h
    have hu : u = cOp := (str_is hu).trans eO.symm
    subst hu
    refine ⟨⟨hz, by decide, fun e => absurd e (by decide)⟩, ?_⟩
    unfold mailStep
    rw [if_pos (by decide), ← h, List.map_append]
    rfl
  case isFalse hu =>
  have hu1 : (u == cOp) = false := by
    rw [beq_eq_false_iff_ne]
    intro z
    exact hu (by rw [z]; decide)
  split at h
  case isTrue hv =>
    split at h
    case isFalse => cases h
    case isTrue hb =>
    have h := Option.some.inj h
    have hv' : u = cCl := (str_is hv).trans eC.symm
    subst hv'
    have hq := quote_fast (x := (toS (lastP st)).2) (by show (⟨(lastP st).2.toArray⟩ : PySem.Str).length ≤ 1000; rw [str_len]; exact hb.2.2)
    refine ⟨⟨hz, by decide, fun _ => ?_⟩, ?_⟩
    · rw [drop_toS, top_toS, top_toS]
      refine ⟨?_, ?_, hq.1, ?_⟩
      · show (⟨(lastP st.dropLast).2.toArray⟩ : PySem.Str).length ≤ 100000
        rw [str_len]; (first | lia | omega)
      · show (⟨(lastP st).1.toArray⟩ : PySem.Str).length ≤ 100000
        rw [str_len]; (first | lia | omega)
      · rw [hq.2]
        show (quoteZ ⟨(lastP st).2.toArray⟩).length ≤ 100000
        rw [quote_toS, str_len]
        have a1 := dotl_len (crlS false (lastP st).2) true
        have a2 := crlS_len (lastP st).2 false
        have := hb.2.2
        unfold quoteL
        (first | lia | omega)
    · unfold mailStep
      rw [if_neg (by decide), if_pos (by decide), close_toS st hb.2.2, drop_toS, top_toS, drop_toS, ← h, List.map_append]
      rfl
  case isFalse hv =>
  have hu2 : (u == cCl) = false := by
    rw [beq_eq_false_iff_ne]
    intro z
    exact hv (by rw [z]; decide)
  split at h
  case h_2 => cases h
  case h_1 c hc =>
  have h := Option.some.inj h
  have hu3 : u = ⟨#[92, c]⟩ := str_is hc
  refine ⟨⟨hz, by rw [hu3]; exact (show (2 : Nat) ≤ 100 by decide), fun e => by rw [hu2] at e; cases e⟩, ?_⟩
  unfold mailStep
  rw [hu1, hu2, if_neg Bool.false_ne_true, if_neg Bool.false_ne_true, drop_toS, ← h, List.map_append, hu3]
  have es : Txt.slice (⟨#[92, c]⟩ : PySem.Str) (some 1) none = ⟨#[c]⟩ := by kernel_rfl
  rw [es]
  rfl
theorem runL_ok : ∀ (us : List (Nat × PySem.Str)) (st st' : List LL), runL us st = some st' → MailOk us (st.map toS) ∧ us.foldl (fun st u => mailStep st u.2) (st.map toS) = st'.map toS
  | [], st, st', h => ⟨trivial, by rw [Option.some.inj h]; rfl⟩
  | u :: us, st, st', h => by
    unfold runL at h
    split at h
    case h_2 => cases h
    case h_1 st₁ hs =>
    obtain ⟨h1, h2⟩ := stepL_ok hs
    obtain ⟨h3, h4⟩ := runL_ok us st₁ st' h
    refine ⟨⟨h1, by rw [h2]; exact h3⟩, ?_⟩
    rw [List.foldl_cons, h2]
    exact h4
noncomputable def joinL : List (List Nat) → List Nat
  | [] => []
  | [a] => a
  | a :: b :: r => a ++ 13 :: 10 :: joinL (b :: r)
theorem joinL_is : ∀ l : List (List Nat), Str.join ⟨#[13, 10]⟩ (l.map fun a => (⟨a.toArray⟩ : PySem.Str)) = ⟨(joinL l).toArray⟩
  | [] => rfl
  | [a] => rfl
  | a :: b :: r => by
    have ih := joinL_is (b :: r)
    refine str_ext ?_
    show ((⟨a.toArray⟩ : PySem.Str) ++ (⟨#[13, 10]⟩ : PySem.Str) ++ Str.join ⟨#[13, 10]⟩ ((b :: r).map fun a => (⟨a.toArray⟩ : PySem.Str))).cps.toList = _
    rw [ih]
    simp [Str.cps_append, joinL]
noncomputable def endL (tail : List Nat) : Option (List (List Nat)) :=
  if joinL (cutZ [] tail) = tail ∧ ((cutZ [] tail).all fun p => !p.contains 13) = true ∧ ((cutZ [] tail).all fun p => decide (p.length ≤ 90000)) = true then some (cutZ [] tail).dropLast else none
noncomputable def mailZ (x : PySem.Str) : Option (List (List Nat)) :=
  if x.cps.all (· < 128) = true then
    match runL (units x) [] with
    | some st => if st.length ≤ 800 ∧ (lastP st).2.length ≤ 1000 then endL (quoteL (lastP st).2) else none
    | none => none
  else none
noncomputable def rowsOf (d : List (List Nat)) : List (PySem.Str × Int) := d.map fun r => (Txt.slice ⟨r.toArray⟩ (some (-1)) none, (r.length : Int) - 3)
theorem mailZ_ok {x : PySem.Str} {d : List (List Nat)} (h : mailZ x = some d) : MailFine x ∧ mailF x = rowsOf d := by
  unfold mailZ at h
  split at h
  case isFalse => cases h
  case isTrue ha =>
  split at h
  case h_2 => cases h
  case h_1 st hst =>
  split at h
  case isFalse => cases h
  case isTrue hb =>
  obtain ⟨b1, b2⟩ := hb
  obtain ⟨m1, m2⟩ := runL_ok _ _ _ hst
  have e1 : mailEnd x = st.map toS := m2
  have q := quote_fast (x := (toS (lastP st)).2) (by show (⟨(lastP st).2.toArray⟩ : PySem.Str).length ≤ 1000; rw [str_len]; exact b2)
  have e2 : mailTail x = ⟨(quoteL (lastP st).2).toArray⟩ := by
    unfold mailTail
    rw [e1, top_toS, q.2]
    exact quote_toS _
  unfold endL at h
  split at h
  case isFalse => cases h
  case isTrue hc =>
  (refine x0_3 (hc) ?_; try clear hc; intro c1 c2 c3)
  have h := Option.some.inj h
  have hcs : cutStrs ⟨(quoteL (lastP st).2).toArray⟩ = (cutZ [] (quoteL (lastP st).2)).map fun a => (⟨a.toArray⟩ : PySem.Str) := by unfold cutStrs; rfl
  have es : Txt.split (⟨(quoteL (lastP st).2).toArray⟩ : PySem.Str) crlfZ = (cutZ [] (quoteL (lastP st).2)).map fun a => (⟨a.toArray⟩ : PySem.Str) := by
    rw [show crlfZ = ⟨#[13, 10]⟩ by decide, ← hcs]
    refine split_cut ?_ ?_
    · rw [hcs, joinL_is, c1]
    · rw [hcs, List.all_map]
      exact c2
  have hlen : (quoteL (lastP st).2).length ≤ 90000 := by
    have a1 := dotl_len (crlS false (lastP st).2) true
    have a2 := crlS_len (lastP st).2 false
    unfold quoteL
    (first | lia | omega)
  refine ⟨⟨ha, m1, by rw [e1, List.length_map]; exact b1, by rw [e1, top_toS]; exact q.1, by rw [e2, str_len]; exact hlen, fun r hr => ?_⟩, ?_⟩
  · rw [e2, es] at hr
    (refine x1_2 (List.mem_map.mp (List.dropLast_subset _ hr)) ?_; intro a ha' eqX2; subst eqX2)
    rw [str_len]
    exact of_decide_eq_true (List.all_eq_true.mp c3 a ha')
  · unfold mailF rowsOf
    rw [e2, es, ← h, ← List.map_dropLast, List.map_map]
    refine List.map_congr_left fun r _ => ?_
    show (_, ((⟨r.toArray⟩ : PySem.Str).length : Int) - 3) = _
    rw [str_len]
noncomputable def okD (r : List Nat) (dq dn : List (PySem.Str × Int)) : Bool :=
  let os := dn.map fun y => Txt.find signsS y.1
  let ls := dn.map (·.2)
  permB os && (decide (sortP (outerL os ls 6) = some (nearR r)) && (decide (((List.range 6).map fun p : Nat => ls.getD (os.idxOf (p : Int)) 0) = spotsF (chainF r 6 0) (chainF r 6 0).length) && decide (dq = lawEnd (nearR r) 6)))
noncomputable def okZ (r : List Nat) : Bool :=
  let ri := r.map fun k : Nat => (k : Int)
  let q := queueF ri marksL
  let ns := nestF (hooksR ri) marksL 7 (-1)
  checkB q && (checkB ns && (match mailZ q, mailZ ns with
    | some dq, some dn => okD r (rowsOf dq) (rowsOf dn)
    | _, _ => false))
theorem chain_len (r : List Nat) : ∀ (f p : Nat), (chainF r f p).length ≤ f
  | 0, _ => Nat.le_refl _
  | f + 1, p => by
    unfold chainF
    split
    · simp
    · exact Nat.succ_le_succ (chain_len r f (r.getD p 0))
theorem chain_le {r : List Nat} {N : Nat} (h : ∀ p, r.getD p 0 ≤ N) : ∀ (f p : Nat), ∀ k ∈ chainF r f p, k ≤ N
  | 0, _, k, hk => by cases hk
  | f + 1, p, k, hk => by
    unfold chainF at hk
    rcases List.mem_cons.mp hk with rfl | hk
    · have := h p; (first | lia | omega)
    · split at hk
      · cases hk
      · exact chain_le h f _ k hk
theorem hook_lt (r : List Int) (p : Nat) : hookOf r p < (p : Int) ∧ -1 ≤ hookOf r p := by
  have key : ∀ (l : List Int) (a : Int), a < (p : Int) → -1 ≤ a → (∀ x ∈ l, x < (p : Int)) → l.foldl max a < (p : Int) ∧ -1 ≤ l.foldl max a := fun l => by
    induction l with
    | nil => intro a h1 h2 _; exact ⟨h1, h2⟩
    | cons x l ih =>
      intro a h1 h2 h3
      have := h3 x (.head _)
      exact ih (max a x) (by ktn_no "om") (by ktn_no "om") fun y hy => h3 y (.tail _ hy)
  refine key _ (-1) (by ktn_no "om") (by ktn_no "om") fun x hx => ?_
  (refine x1_2 (List.mem_map.mp hx) ?_; intro a ha eqX2; subst eqX2)
  have := List.mem_range.mp (List.mem_filter.mp ha).1
  (first | lia | omega)
theorem checkB_ok {x : PySem.Str} (h : checkB x = true) : StripOk x ∧ (stripF x).cps.all (· < 128) = true ∧ checkF x = true := by
  unfold checkB at h
  rw [Bool.and_eq_true, Bool.and_eq_true] at h
  exact ⟨stripOk_of h.1, h.2.1, h.2.2⟩
theorem near_len (C : Nat → Nat → Bool) : (allPairs C 6).length ≤ 100 := by
  have h : ∀ a j, (pairs2 C a j).length ≤ j := fun a j => by
    unfold pairs2
    rw [List.length_map]
    exact Nat.le_trans (List.length_filter_le _ _) (by simp)
  have e : allPairs C 6 = pairs2 C 0 5 ++ (pairs2 C 1 4 ++ (pairs2 C 2 3 ++ (pairs2 C 3 2 ++ (pairs2 C 4 1 ++ (pairs2 C 5 0 ++ []))))) := rfl
  rw [e]
  simp only [List.length_append, List.length_nil]
  have := h 0 5; have := h 1 4; have := h 2 3; have := h 3 2; have := h 4 1; have := h 5 0
  (first | lia | omega)
/-- what the texts of brackets tell of a class -/
structure Told (r : List Nat) (q ns : PySem.Str) : Prop where
  cq : StripOk q ∧ (stripF q).cps.all (· < 128) = true ∧ checkF q = true
  cn : StripOk ns ∧ (stripF ns).cps.all (· < 128) = true ∧ checkF ns = true
  mq : MailFine q
  mn : MailFine ns
  perm : ((mailF ns).map fun y => Txt.find signsS y.1).Perm [0, 1, 2, 3, 4, 5]
  near : sortP (outerL ((mailF ns).map fun y => Txt.find signsS y.1) ((mailF ns).map (·.2)) 6) = some (nearR r)
  spots : ((List.range 6).map fun p : Nat => ((mailF ns).map (·.2)).getD (((mailF ns).map fun y => Txt.find signsS y.1).idxOf (p : Int)) 0) = spotsF (chainF r 6 0) (chainF r 6 0).length
  fin : mailF q = lawEnd (nearR r) 6
theorem told_of {r : List Nat} (h : okZ r = true) : Told r (queueF (r.map fun k : Nat => (k : Int)) marksL) (nestF (hooksR (r.map fun k : Nat => (k : Int))) marksL 7 (-1)) := by
  unfold okZ at h
  dsimp only at h
  rw [Bool.and_eq_true, Bool.and_eq_true] at h
  (refine x0_3 (h) ?_; try clear h; intro h1 h2 h3)
  split at h3
  case h_2 => cases h3
  case h_1 dq dn e1 e2 =>
  obtain ⟨q1, q2⟩ := mailZ_ok e1
  obtain ⟨n1, n2⟩ := mailZ_ok e2
  unfold okD permB at h3
  dsimp only at h3
  rw [Bool.and_eq_true, Bool.and_eq_true, Bool.and_eq_true, decide_eq_true_eq, decide_eq_true_eq, decide_eq_true_eq, decide_eq_true_eq] at h3
  (refine x0_4 (h3) ?_; try clear h3; intro d1 d2 d3 d4)
  rw [← n2] at d1 d2 d3
  rw [← q2] at d4
  exact ⟨checkB_ok h1, checkB_ok h2, q1, n1, d1, d2, d3, d4⟩
section
variable {w : World} {A : Around} {E : Value → Shared → Prop} {Q : Value → Shared → Prop} {s₁ : Shared} {n : Nat}
theorem law_run (hok : ∀ (ks : List Nat) (wd : Nat), ks.length = 6 → okZ (rL ((4 + wd : Nat) : Int) ks) = true) {sa : Addr} {vs : List Value} {ns : List Int} (R : Room (n + 71) A) (W : WfB w (hideAll s₁.heap [T1, T2])) (tb : TabOk s₁.heap) (hsz : szTop ≤ s₁.heap.objs.size) (X : (KF w.params).In s₁.heap) (hnl : s₁.heap.NoLimit)
    (hB : (hideAll s₁.heap [T1, T2]).IsList sa vs.toArray) (hI : IntsAre vs ns) (h63 : ns.length ≤ 63)
    (h : ∀ L m cl cm rest s', Fm w (hideAll s₁.heap [T1, T2]) L cl s₁ m cm rest s' → Q (.bool true) s') : wpAny (M w) A (call (.ref a_law) [.ref sa] []) Q E s₁ := by
  refine law_call R W tb hsz X hnl fun L s₂ F HC R => ?_
  rw [body_is]
  have m1 : bindL (envLaw L).kindOf [("script", .ref sa)] (fun _ => none) "script" = some (.ref sa) := by kernel_rfl
  revert F
  generalize bindL (envLaw L).kindOf [("script", .ref sa)] (fun _ => none) = m at m1 ⊢
  generalize bindC (envLaw L).kindOf [("script", .ref sa)] (fun _ => none) = cm
  intro F
  have lv := hI.length
  refine wpAny_execs_cons (law_0 (n := n + 50) R F HC hB hI (by ktn_no "om") m1 fun D₀ cs k₀ s' hc1 hc2 F₁ => ?_)
  clear F
  refine wpAny_execs_cons (law_1 (n := n + 50) R F₁ HC (.head _) hc1 (fun c hc => (hc2 c hc).1) rfl fun N₀ nums k₁ s' hn1 hn2 F₂ => ?_)
  clear F₁
  refine wpAny_execs_cons (law_2 (n := n + 50) R F₂ HC (.head _) hn1 hn2 rfl fun W₀ ws k₂ tw ks wd s' h6 hk hws hwd F₃ => ?_)
  clear F₂
  refine wpAny_execs_cons (law_3 (n := n) R F₃ HC (.head _) h6 hk hws rfl rfl fun rl vr lr kr t₄ s' hL F₄ => ?_)
  clear F₃
  -- the class of this script
  have hwl : ((4 + wd : Nat) : Int) = ((4 + wd : Nat) : Int) := rfl
  have T := told_of (hok ks wd h6)
  generalize hW : ((4 + wd : Nat) : Int) = Wd at *
  have hx : ∀ p, p < 6 → ((List.range 6).map fun p => rowV Wd ((ks.map wordS).drop p))[p]? = some (((rN Wd ks p - p : Nat) : Int) :: (rowV Wd ((ks.map wordS).drop p)).tail) := fun p hp => by
    rw [List.getElem?_map, List.getElem?_range hp]
    show some (rowV Wd ((ks.map wordS).drop p)) = _
    congr 1
    rw [rowV_cn (ks := ks) drop_mem, cn_drop (by ktn_no "om")]
    rfl
  have hgx : ∀ p, p < 6 → ((List.range 6).map fun p => rowV Wd ((ks.map wordS).drop p)).getD p [] = rowV Wd ((ks.map wordS).drop p) := fun p hp => by
    rw [List.getD_eq_getElem?_getD, List.getElem?_map, List.getElem?_range hp]; rfl
  have hmem : ∀ p ∈ lr, p ∈ (rl, lsO vr kr) :: (lr ++ [(W₀, lsO (strValues ws) k₂), (N₀, lsO (inV nums) k₁), (D₀, lsO (inV cs) k₀)]) := fun p hp => .tail _ (List.mem_append_left _ hp)
  refine wpAny_execs_cons (law_4 (n := n) R F₄ HC (.head _) hL hmem (fun p hp => ⟨_, _, hx p hp⟩) rfl fun Rc rs k₅ s' hrs F₅ => ?_)
  clear F₄
  have hri : rs.map (·.1) = (rL Wd ks).map fun k : Nat => (k : Int) := by
    rw [hrs]
    unfold rL
    rw [List.map_map]
    refine List.map_congr_left fun p hp => ?_
    have hp6 := List.mem_range.mp hp
    rw [hgx p hp6]
    exact head_rN (by ktn_no "om")
  have hrl6 : rs.length = 6 := by have := congrArg List.length hri; simpa [rL] using this
  refine wpAny_execs_cons (law_5 (n := n) R F₅ (.head _) hrl6 rfl fun Hk hs k₆ s' hhs F₆ => ?_)
  clear F₅
  rw [hri] at hhs
  have hhs6 : hs.length = 6 := by have := congrArg List.length hhs; simpa using this
  refine wpAny_execs_cons (law_6 (n := n) R F₆ rfl fun Mk ms k₇ s' hms F₇ => ?_)
  clear F₆
  have hms6 : ms.length = 6 := by have := congrArg List.length hms; simpa [marksL] using this
  have hml : ∀ y ∈ ms, y.1.length ≤ 10 := fun y hy => by
    have : y.1 ∈ marksL := by rw [← hms]; exact List.mem_map_of_mem hy
    have key : ∀ z ∈ marksL, z.length ≤ 10 := by decide +kernel
    exact key _ this
  have hhl : ∀ o (h : o < hs.length), hs[o].1 < o := fun o ho => by
    have e : (hs.map (·.1))[o]? = some (hookOf ((rL Wd ks).map fun k : Nat => (k : Int)) o) := by
      rw [hhs, List.getElem?_map, List.getElem?_range (by ktn_no "om")]; rfl
    rw [List.getElem?_map, List.getElem?_eq_getElem ho] at e
    have e : hs[o].1 = hookOf ((rL Wd ks).map fun k : Nat => (k : Int)) o := Option.some.inj e
    rw [e]
    exact (hook_lt _ _).1
  refine wpAny_execs_cons (law_7 (n := n) R F₇ HC (ra := Rc) (ha := Hk) (ma := Mk) (rs := rs) (hs := hs) (ms := ms) (.tail _ (.tail _ (.head _))) (.tail _ (.head _)) (.head _) hrl6 hhs6 hms6 hml hhl rfl rfl rfl fun t₈ u₈ s' F₈ => ?_)
  clear F₇
  rw [hri, hhs, hms] at F₈
  have eh : (List.range 6).map (hookOf ((rL Wd ks).map fun k : Nat => (k : Int))) = hooksR ((rL Wd ks).map fun k : Nat => (k : Int)) := rfl
  rw [eh] at F₈
  generalize queueF ((rL Wd ks).map fun k : Nat => (k : Int)) marksL = q at *
  generalize nestF (hooksR ((rL Wd ks).map fun k : Nat => (k : Int))) marksL 7 (-1) = nst at *
  refine wpAny_execs_cons (law_8 (n := n) R F₈ rfl rfl T.cq.1 T.cq.2.1 T.cq.2.2 T.cn.1 T.cn.2.1 T.cn.2.2 fun s' F₉ => ?_)
  clear F₈
  refine wpAny_execs_cons (law_9 (n := n) R F₉ rfl T.mn fun Dp vd ld kd s' hdp F₁₀ => ?_)
  clear F₉
  have hd6 : (mailF nst).length = 6 := by have := T.perm.length_eq; simpa using this
  refine wpAny_execs_cons (law_10 (n := n) R F₁₀ HC (.head _) hdp (fun p hp => .tail _ (List.mem_append_left _ hp)) (by ktn_no "om") rfl rfl fun O V os ls ko kv s' hos hls F₁₁ => ?_)
  clear F₁₀
  have ho6 : os.length = 6 := by have := congrArg List.length hos; simpa [hd6] using this
  have hl6 : ls.length = 6 := by have := congrArg List.length hls; simpa [hd6] using this
  have hperm : (os.map (·.1)).Perm [0, 1, 2, 3, 4, 5] := by rw [hos]; exact T.perm
  refine wpAny_execs_cons (law_11 (n := n) R F₁₁ (O := O) (os := os) (.tail _ (.head _)) hperm rfl fun s' F₁₂ => ?_)
  clear F₁₁
  refine wpAny_execs_cons (law_12 (n := n) R F₁₂ HC (O := O) (V := V) (os := os) (ls := ls) (qs := nearR (rL Wd ks)) (.tail _ (.head _)) (.head _) ho6 hl6 rfl rfl (by rw [hos, hls]; exact T.near) fun Nr vn ln kn s' hpn F₁₃ => ?_)
  clear F₁₂
  have hwl := word_ok hws hk
  have mW : ∀ Y : List (Addr × Obj), (W₀, lsO (strValues ws) k₂) ∈ Y ++ [(W₀, lsO (strValues ws) k₂), (N₀, lsO (inV nums) k₁), (D₀, lsO (inV cs) k₀)] := fun Y => List.mem_append_right _ (.head _)
  have hws6 : ws.length = 6 := by have := congrArg List.length hws; simpa [h6] using this
  refine wpAny_execs_cons (law_13 (n := n) R F₁₃ HC (W := W₀) (ws := ws) (k := k₂) (.tail _ (List.mem_append_right _ (.tail _ (.tail _ (.tail _ (List.mem_append_right _ (.tail _ (.tail _ (.tail _ (.tail _ (mW lr)))))))))))
    (by ktn_no "om") (fun y hy => Nat.le_trans (hwl.2 y hy) (by decide)) rfl fun Sz ss kz s' hss F₁₄ => ?_)
  clear F₁₃
  have hss' : ss.map (·.1) = ks.map fun k => ((k + 1 : Nat) : Int) := by
    rw [hss, show (ws.map fun y => (y.1.length : Int)) = (ws.map (·.1)).map fun x : PySem.Str => (x.length : Int) by rw [List.map_map]; rfl, hws, List.map_map]
    refine List.map_congr_left fun k _ => ?_
    show ((wordS k).length : Int) = _
    rw [wordS_length]
  have hss6 : ss.length = 6 := by have := congrArg List.length hss'; simpa [h6] using this
  refine wpAny_execs_cons (law_14 (n := n) R F₁₄ (N := Nr) (S := Sz) (ss := ss) (vs₀ := vn) (lp := ln) (C := fun a b => decide (b < (rL Wd ks).getD a 0)) (.head _) hss6 (.tail _ (.head _)) (fun p hp => .tail _ (.tail _ (List.mem_append_left _ hp))) hpn (fun a b hab hb => ?_) rfl rfl rfl fun s' F₁₅ => ?_)
  · rw [hss', rL_get (by ktn_no "om")]
    have := rN_iff (W := Wd) (ks := ks) (p := a) (q := b) hab (by ktn_no "om")
    unfold SS at this
    exact decide_eq_decide.mpr this.symm
  clear F₁₄
  have hrb : ∀ p, (rL Wd ks).getD p 0 ≤ 6 := fun p => by
    by_cases hp : p < 6
    · rw [rL_get hp]
      have := (rN_le (W := Wd) (ks := ks) (p := p) (by ktn_no "om")).2
      (first | lia | omega)
    · have : (rL Wd ks)[p]? = none := List.getElem?_eq_none_iff.mpr (by simp [rL]; (first | lia | omega))
      rw [List.getD_eq_getElem?_getD, this]
      exact Nat.zero_le _
  have hx0 : ((List.range 6).map fun p => rowV Wd ((ks.map wordS).drop p))[0]? = some ((chainF (rL Wd ks) 6 0).map fun k : Nat => (k : Int)) := by
    show some (rowV Wd ((ks.map wordS).drop 0)) = _
    congr 1
    rw [rowV_cn (ks := ks) drop_mem, cn_chain h6 6 0 (by decide) (by decide)]
  refine wpAny_execs_cons (law_15 (n := n) R F₁₅ (O := O) (V := V) (rl := rl) (os := os) (ls := ls) (rv := chainF (rL Wd ks) 6 0) (vs := vr) (l := lr) (.tail _ (.tail _ (List.mem_append_right _ (.tail _ (.head _))))) hperm (.tail _ (.tail _ (List.mem_append_right _ (.head _)))) hl6
    (.tail _ (.tail _ (List.mem_append_right _ (.tail _ (.tail _ (.tail _ (List.mem_append_right _ (.tail _ (.tail _ (.tail _ (.head _)))))))))))
    hL (fun p hp => .tail _ (.tail _ (List.mem_append_right _ (.tail _ (.tail _ (.tail _ (List.mem_append_right _ (.tail _ (.tail _ (.tail _ (.tail _ (List.mem_append_left _ hp))))))))))))
    hx0 (Nat.le_trans (chain_len _ 6 0) (by decide)) (fun k hk => Nat.le_trans (chain_le hrb 6 0 k hk) (by decide)) rfl rfl rfl (by rw [hos, hls]; exact T.spots) fun s' F₁₆ => ?_)
  clear F₁₅
  refine wpAny_execs_cons (law_16 (n := n) R F₁₆ (N := Nr) (qs := nearR (rL Wd ks)) (vs₀ := vn) (lp := ln) (.tail _ (.head _)) (fun p hp => .tail _ (.tail _ (List.mem_append_left _ hp))) hpn (near_len _) rfl T.mq rfl rfl T.fin fun s' rest' F₁₇ => ?_)
  exact h _ _ _ _ _ _ F₁₇
end
/-- the rising lists of what the last k words reach, from lo on -/
noncomputable def cls : Nat → Nat → List (List Nat)
  | 0, _ => [[]]
  | k + 1, lo => (List.range 7).flatMap fun a => if 5 - k < a ∧ lo ≤ a then (cls k a).map (a :: ·) else []
theorem mem_cls : ∀ (k lo : Nat) (r : List Nat), k ≤ 6 → r.length = k → (∀ i (h : i < r.length), 6 - k + i < r[i] ∧ r[i] ≤ 6 ∧ lo ≤ r[i]) → (∀ i (h : i + 1 < r.length), r[i] ≤ r[i + 1]) → r ∈ cls k lo
  | 0, lo, r, _, hl, _, _ => by
    rw [List.eq_nil_of_length_eq_zero hl]; exact .head _
  | k + 1, lo, [], _, hl, _, _ => by simp at hl
  | k + 1, lo, a :: r, h6, hl, hb, hm => by
    unfold cls
    have h0 := hb 0 (by simp)
    simp only [List.getElem_cons_zero] at h0
    have hlr : r.length = k := by simpa using hl
    refine List.mem_flatMap.mpr ⟨a, List.mem_range.mpr (by ktn_no "om"), ?_⟩
    rw [if_pos ⟨by (first | lia | omega), h0.2.2⟩]
    refine List.mem_map_of_mem (mem_cls k a r (by ktn_no "om") hlr (fun i hi => ?_) fun i hi => ?_)
    · have h1 := hb (i + 1) (by simpa using hi)
      simp only [List.getElem_cons_succ] at h1
      refine ⟨by (first | lia | omega), h1.2.1, ?_⟩
      have key : ∀ i (h : i < r.length), a ≤ r[i] := fun i => by
        induction i with
        | zero =>
          intro h
          have := hm 0 (by simpa using h)
          simpa using this
        | succ i ih =>
          intro h
          have := hm (i + 1) (by simpa using h)
          simp only [List.getElem_cons_succ] at this
          exact Nat.le_trans (ih (by ktn_no "om")) this
      exact key i hi
    · have := hm (i + 1) (by simpa using hi)
      simpa using this
noncomputable def okAB (a b : Nat) : Bool := (cls 4 b).all fun r => okZ (a :: b :: r)
theorem ok12 : okAB 1 2 = true := by decide +kernel
theorem ok13 : okAB 1 3 = true := by decide +kernel
theorem ok14 : okAB 1 4 = true := by decide +kernel
theorem ok15 : okAB 1 5 = true := by decide +kernel
theorem ok16 : okAB 1 6 = true := by decide +kernel
theorem ok22 : okAB 2 2 = true := by decide +kernel
theorem ok23 : okAB 2 3 = true := by decide +kernel
theorem ok24 : okAB 2 4 = true := by decide +kernel
theorem ok25 : okAB 2 5 = true := by decide +kernel
theorem ok26 : okAB 2 6 = true := by decide +kernel
theorem ok33 : okAB 3 3 = true := by decide +kernel
theorem ok34 : okAB 3 4 = true := by decide +kernel
theorem ok35 : okAB 3 5 = true := by decide +kernel
theorem ok36 : okAB 3 6 = true := by decide +kernel
theorem ok44 : okAB 4 4 = true := by decide +kernel
theorem ok45 : okAB 4 5 = true := by decide +kernel
theorem ok46 : okAB 4 6 = true := by decide +kernel
theorem ok55 : okAB 5 5 = true := by decide +kernel
theorem ok56 : okAB 5 6 = true := by decide +kernel
theorem ok66 : okAB 6 6 = true := by decide +kernel
theorem okAB_all (a b : Nat) (h1 : 1 ≤ a) (h2 : a ≤ 6) (h3 : 2 ≤ b) (h4 : b ≤ 6) (h5 : a ≤ b) : okAB a b = true := by
  have ha : a = 1 ∨ a = 2 ∨ a = 3 ∨ a = 4 ∨ a = 5 ∨ a = 6 := by (first | lia | omega)
  have hb : b = 2 ∨ b = 3 ∨ b = 4 ∨ b = 5 ∨ b = 6 := by (first | lia | omega)
  rcases ha with rfl | rfl | rfl | rfl | rfl | rfl <;> rcases hb with rfl | rfl | rfl | rfl | rfl <;> first
    | with_reducible exact ok12
    | with_reducible exact ok13
    | with_reducible exact ok14
    | with_reducible exact ok15
    | with_reducible exact ok16
    | with_reducible exact ok22
    | with_reducible exact ok23
    | with_reducible exact ok24
    | with_reducible exact ok25
    | with_reducible exact ok26
    | with_reducible exact ok33
    | with_reducible exact ok34
    | with_reducible exact ok35
    | with_reducible exact ok36
    | with_reducible exact ok44
    | with_reducible exact ok45
    | with_reducible exact ok46
    | with_reducible exact ok55
    | with_reducible exact ok56
    | with_reducible exact ok66
    | (exfalso; (first | lia | omega))
theorem ok_all {r : List Nat} (hl : r.length = 6) (hb : ∀ i (h : i < r.length), i < r[i] ∧ r[i] ≤ 6) (hm : ∀ i (h : i + 1 < r.length), r[i] ≤ r[i + 1]) : okZ r = true := by
  match r, hl with
  | a :: b :: r, hl =>
    have h0 := hb 0 (by simp)
    have h1 := hb 1 (by simp)
    have h2 := hm 0 (by simp)
    simp only [List.getElem_cons_zero, List.getElem_cons_succ] at h0 h1 h2
    have hr : r ∈ cls 4 b := by
      have hrl : r.length = 4 := by simpa using hl
      have hm2 : ∀ i (h : i + 1 < r.length), r[i] ≤ r[i + 1] := fun i h => by
        have := hm (i + 2) (by simp only [List.length_cons]; (first | lia | omega))
        simpa using this
      have key : ∀ i (h : i < r.length), b ≤ r[i] := fun i => by
        induction i with
        | zero =>
          intro h
          have := hm 1 (by simp only [List.length_cons]; (first | lia | omega))
          simpa using this
        | succ i ih =>
          intro h
          exact Nat.le_trans (ih (by ktn_no "om")) (hm2 i h)
      refine mem_cls 4 b r (by decide) hrl (fun i h => ?_) hm2
      have h3 := hb (i + 2) (by simp only [List.length_cons]; (first | lia | omega))
      simp only [List.getElem_cons_succ] at h3
      exact ⟨by (first | lia | omega), h3.2, key i h⟩
    exact List.all_eq_true.mp (okAB_all a b h0.1 h0.2 (by ktn_no "om") h1.2 h2) r hr
theorem ok_words (ks : List Nat) (wd : Nat) (h6 : ks.length = 6) : okZ (rL ((4 + wd : Nat) : Int) ks) = true := by
  have hg : ∀ i (h : i < (rL ((4 + wd : Nat) : Int) ks).length), (rL ((4 + wd : Nat) : Int) ks)[i] = rN ((4 + wd : Nat) : Int) ks i := fun i h => by
    simp [rL]
  have hl : (rL ((4 + wd : Nat) : Int) ks).length = 6 := by simp [rL]
  refine ok_all hl (fun i h => ?_) fun i h => ?_
  · rw [hg i h]
    have := rN_le (W := ((4 + wd : Nat) : Int)) (ks := ks) (p := i) (by ktn_no "om")
    (first | lia | omega)
  · rw [hg i (by ktn_no "om"), hg (i + 1) h]
    exact rN_mono (by ktn_no "om")
theorem kf_of {w : World} {s : Shared} (Y : obsv s = valv w) : (KF w.params).In s.heap ∧ s.heap.objs.size = szTop ∧ tabsIn s = true := by
  have h := Y
  unfold obsv valv at h
  simp only [Prod.mk.injEq] at h
  (refine x0_3 (h) ?_; try clear h; intro h1 h2 h3)
  refine ⟨fun a o e => ?_, h2, h3⟩
  have hk : (KF w.params).map (·.1) = kAddrs := by kernel_rfl
  rw [← hk, List.map_map] at h1
  have key : ∀ l : Frag, l.map (s.heap.get? ∘ (·.1)) = l.map (fun p => some p.2) → ∀ a o, l.lookup a = some o → s.heap.get? a = some o := fun l => by
    induction l with
    | nil => intro _ a o e; cases e
    | cons p l ih =>
      intro hh a o e
      obtain ⟨x, y⟩ := p
      simp only [List.map_cons, List.cons.injEq] at hh
      rw [List.lookup_cons] at e
      cases hb : a == x with
      | true => rw [hb] at e; simp only at e; rw [beq_iff_eq.mp hb]; rw [← Option.some.inj e]; exact hh.1
      | false => rw [hb] at e; exact ih hh.2 a o e
  exact key _ h1 a o e
theorem tab_of {h : Heap} {t : Addr} (e : tabOne h t = true) : h.get? t = some (tableObj #[]) := by
  unfold tabOne at e
  split at e
  case h_2 => cases e
  case h_1 a sl e1 =>
  rw [Bool.and_eq_true, beq_iff_eq, beq_iff_eq] at e
  have ha := Array.eq_empty_of_size_eq_zero e.1
  have hb := Array.eq_empty_of_size_eq_zero e.2
  subst ha hb
  exact e1
theorem tabs_of {s : Shared} (h : tabsIn s = true) : s.heap.get? T1 = some (tableObj #[]) ∧ s.heap.get? T2 = some (tableObj #[]) := by
  unfold tabsIn at h
  rw [Bool.and_eq_true] at h
  exact ⟨tab_of h.1, tab_of h.2⟩
section
variable {w : World} {h : Heap}
theorem tab_a (X : (KF w.params).In h) (e : h.get? T1 = some (tableObj #[])) : h.IsCode C1 T1 #[] ∧ h.TableAt C1 T1 #[] :=
  ⟨⟨_, _, _, _, _, _, _, _, _, _, X C1 _ (by ktn_no "k_ev"), by ktn_no "k_ev", by kernel_rfl, by ktn_no "k_ev", by ktn_no "k_ev", by ktn_no "k_ev", by ktn_no "k_ev", e, rfl, trivial, by decide⟩, ⟨⟨_, _, X C1 _ (by ktn_no "k_ev"), by kernel_rfl, by ktn_no "k_ev", by kernel_rfl⟩, e⟩⟩
theorem tab_b (X : (KF w.params).In h) (e : h.get? T2 = some (tableObj #[])) : h.IsCode C2 T2 #[] ∧ h.TableAt C2 T2 #[] :=
  ⟨⟨_, _, _, _, _, _, _, _, _, _, X C2 _ (by ktn_no "k_ev"), by ktn_no "k_ev", by kernel_rfl, by ktn_no "k_ev", by ktn_no "k_ev", by ktn_no "k_ev", by ktn_no "k_ev", e, rfl, trivial, by decide⟩, ⟨⟨_, _, X C2 _ (by ktn_no "k_ev"), by kernel_rfl, by ktn_no "k_ev", by kernel_rfl⟩, e⟩⟩
theorem hid {b : Addr} {o : Obj} (e : h.get? b = some o) (h1 : b ≠ T1) (h2 : b ≠ T2) : (hideAll h [T1, T2]).get? b = some o :=
  hideAll_get _ e fun q => by
    rcases List.mem_cons.mp q with q | q
    · exact h1 q
    · rcases List.mem_cons.mp q with q | q
      · exact h2 q
      · cases q
theorem wf_of {p : Program} {loose : List PySem.Str} {mean : ExcName → Option Value} {mg mb : PySem.Str → Option Value} (X : (KF w.params).In h) (T : Top p loose mean mg mb h) (e1 : h.get? T1 = some (tableObj #[])) (e2 : h.get? T2 = some (tableObj #[])) (hz : szTop ≤ h.objs.size) : WfB w (hideAll h [T1, T2]) where
  k := fun a o e => hid (X a o e) (fun q => by rw [q, show (KF w.params).lookup T1 = none by kernel_rfl] at e; cases e) (fun q => by rw [q, show (KF w.params).lookup T2 = none by kernel_rfl] at e; cases e)
  g := ⟨mg, T.g.at' fun o e => hid e (by decide) (by decide)⟩
  b := ⟨mb, T.b.at' fun o e => hid e (by decide) (by decide), T.builtins⟩
  nl := let ⟨mc, a, b⟩ := T.nolimit; ⟨mc, a.at' fun o e => hid e (by decide) (by decide), b⟩
  bm := by
    (refine x2_6 (T.bmain) ?_; intro bm ob a b c d e f)
    refine ⟨mg, bm, ob, T.g.at' fun o e => hid e (by decide) (by decide), a, b, hid c (fun q => ?_) (fun q => ?_), d, e, f⟩
    · rw [q, e1] at c; rw [← Option.some.inj c] at d; cases d
    · rw [q, e2] at c; rw [← Option.some.inj c] at d; cases d
  sz := by rw [hideAll_size]; exact hz
  t1 := hideAll_none _ (.head _)
  t2 := hideAll_none _ (.tail _ (.head _))
/-- what stands after the law's call -/
theorem old_of {L : Addr} {m : PySem.Str → Option Value} {cl : List (PySem.Str × Addr)} {cm : PySem.Str → Option Value} {rest : List (Addr × Obj)} {s₁ s' : Shared} (X : (KF w.params).In s₁.heap) (e1 : s₁.heap.get? T1 = some (tableObj #[])) (e2 : s₁.heap.get? T2 = some (tableObj #[]))
    (F : Fm w (hideAll s₁.heap [T1, T2]) L cl s₁ m cm rest s') : OldK s₁.heap s'.heap := by
  have key : ∀ b o, s₁.heap.get? b = some o → asItWas s₁.heap s'.heap b o ∧ ∃ o', s'.heap.get? b = some o' := fun b o e => by
    by_cases q1 : b = T1
    · subst q1
      rw [e1] at e
      obtain ⟨more, hm⟩ := F.rl.tg _ (.inl rfl) _ e1
      rw [← Option.some.inj e]
      exact ⟨.inr (.inl ⟨(tab_a X e1).2.isCodeTable, rfl, #[], more, rfl, hm⟩), _, hm⟩
    · by_cases q2 : b = T2
      · subst q2
        rw [e2] at e
        obtain ⟨more, hm⟩ := F.rl.tg _ (.inr rfl) _ e2
        rw [← Option.some.inj e]
        exact ⟨.inr (.inl ⟨(tab_b X e2).2.isCodeTable, rfl, #[], more, rfl, hm⟩), _, hm⟩
      · have := F.keep b o (hid e q1 q2)
        exact ⟨.inl this, _, this⟩
  exact ⟨fun b o e => (key b o e).1, fun b o e => (key b o e).2⟩
end
theorem room_caller : Room (0 + 71) callerA := ⟨rfl, by decide, by decide, ⟨[], rfl⟩⟩
end Mine
open PySem PySem.W PySem.W.X PySem.Calls PyProof.Rows Mine
theorem PySem.Challenge.cw_tc0024_01_holds : PySem.Challenge.rw_tc0024_01.Holds := by
  refine holds_law (by kernel_rfl) fun said => ?_
  refine holds_openX (q := qv) (loose := lz) (Xt := fun s => xlAt qv [] s && recOk (RowW.records (OpenRow.toRowW (OpenLaw.row PySem.Challenge.rw_tc0024_01))) s) (XP := XL qv []) (Yf := obsv) (Ya := valv) (N := 4000) left (fun s e => xl_of s (Bool.and_eq_true_iff.mp e).1) XL.keeps (by rfl) (by rfl) (by rfl) (fun s e => recFacts_of (Bool.and_eq_true_iff.mp e).2) (by rfl) (by first | assumption | decide +kernel) (by decide +kernel) ⟨rfl, rfl, rfl, rfl, rfl, by decide +kernel⟩ ?hw ?hc
  case hw => exact ⟨[.list []], by decide +kernel, by decide +kernel⟩
  case hc =>
    intro w s₀ s₁ mg mb G Y fa o pm cd doc dV kV ho hd hcd hD hmg hg args vals as L hpre hlay hrd hwl hlo
    refine Ground.open G ?_
    intro T B D TE TW
    wrow_args hpre hlay hrd hwl hlo
    rename_i xs _ _ _ _ _ _ _ sa vs _ hl _ _ _ hI _ hlen _
    obtain ⟨K₀, z₀, tb₀⟩ := kf_of Y
    obtain ⟨t1, t2⟩ := tabs_of tb₀
    have K₁ := K₀.keeps L.keeps
    have e1 := L.keeps _ _ t1
    have e2 := L.keeps _ _ t2
    have hz : szTop ≤ s₁.heap.objs.size := Heap.lt_size (K₁ _ _ (lk_law _))
    have hfa : mg "law" = some (.ref a_law) := mg_of K₁ T.g (by kernel_rfl)
    have hfe : fa = a_law := by
      have : some (Value.ref fa) = some (Value.ref a_law) := hmg.symm.trans hfa
      exact Value.ref.inj (Option.some.inj this)
    subst hfe
    have W := wf_of K₁ T e1 e2 hz
    have tb : TabOk s₁.heap := ⟨⟨_, tab_a K₁ e1⟩, ⟨_, tab_b K₁ e2⟩⟩
    have hB : (hideAll s₁.heap [T1, T2]).IsList sa vs.toArray := by
      obtain ⟨ol, hol, hoc, nn, hod⟩ := hl
      refine ⟨ol, hid hol (fun q => ?_) (fun q => ?_), hoc, nn, hod⟩
      · rw [q, e1] at hol; rw [← Option.some.inj hol] at hoc; cases hoc
      · rw [q, e2] at hol; rw [← Option.some.inj hol] at hoc; cases hoc
    refine law_run (n := 0) ok_words room_caller W tb hz K₁ T.nolimit hB hI (by omega) fun L' m' cl' cm' rest' s' F => ?_
    refine ⟨.inl ⟨.bool true, .bool true, [], rfl, fun _ => by rfl, .bool true, by first | rfl | wrow_post, fun _ => ⟨List.nodup_nil, fun a ha => by cases ha⟩⟩, old_of K₁ e1 e2 F, F.rl.os, F.rl.bare ?_⟩
    intro x hx
    rw [L.gens] at hx
    simp at hx
