import PyProof.Rows.All
import Wide.All
import OpenK.AllK
import Wide.FinOn
import KE.KBoundM
import KE.KStar
import Lean
import PySem.Challenge.RW_xc0037_01
open PySem PySem.W PyProof.Rows PySem.Calls PySem.Spec
set_option Elab.async false
set_option linter.all false
set_option maxRecDepth 100000
set_option maxHeartbeats 1000000
set_option compiler.extract_closed false
set_option genSizeOf false
set_option genInjectivity false
namespace Mine
section
abbrev pg : Program := PySem.Challenge.pw_xc0037_01
noncomputable def tStmt (i : Nat) : Stmt := (pg.main.body[i]?).getD (.Pass default)
def tSub : Stmt → Nat → Stmt
  | .ClassDef _ _ _ body .., j => (body[j]?).getD (.Pass default)
  | s, _ => s
noncomputable def tMeth (i j : Nat) : Stmt := tSub (tStmt i) j
def tArgs : Stmt → Arguments
  | .FunctionDef _ a .. => a
  | _ => ⟨[], [], none, [], [], none, []⟩
def tBody : Stmt → List Stmt
  | .FunctionDef _ _ b .. => b
  | _ => []
def tScope : Stmt → Scope
  | .FunctionDef _ _ _ _ _ _ s .. => s
  | _ => ⟨.function, [], false, false, []⟩
noncomputable def kAddrs : List Addr := [1, 2, 3, 4, 5, 6, 34, 35, 41, 42, 55, 56, 90, 91, 93, 94, 95, 96, 102, 107, 114, 115, 121, 122, 123, 129, 130, 137, 138, 140, 144, 145, 147, 151, 152, 153, 159, 160, 166, 167, 174, 175, 177, 178, 179, 180, 198, 199, 205, 206, 212, 213, 219, 220, 243, 244, 245, 246, 261, 262, 268, 269, 275, 276, 282, 283, 287, 288, 294, 295, 299, 300, 306, 307, 313, 314, 318, 319]
noncomputable def kTop : Params → Frag := fun P => [
  (1, { cls := Value.type "dict", data := Data.dict #[{ hash := PyData.keyHash P (Str.ofString "builtins"), key := Value.str (Str.ofString "builtins") 162, val := Value.ref 4 }, { hash := PyData.keyHash P (Str.ofString "__main__"), key := Value.str (Str.ofString "__main__") 163, val := Value.ref 5 }] 2 }),
  (2, { cls := Value.none, data := Data.dict #[] }),
  (3, { cls := Value.type "dict", data := Data.dict #[{ hash := PyData.keyHash P (Str.ofString "__name__"), key := Value.str (Str.ofString "__name__") 165, val := Value.str (Str.ofString "law_xc0037_01") 527 }, { hash := PyData.keyHash P (Str.ofString "__doc__"), key := Value.str (Str.ofString "__doc__") 166, val := Value.none }, { hash := PyData.keyHash P (Str.ofString "__package__"), key := Value.str (Str.ofString "__package__") 167, val := Value.none }, { hash := PyData.keyHash P (Str.ofString "__loader__"), key := Value.str (Str.ofString "__loader__") 168, val := Value.builtin "__main__.__loader__#opaque" }, { hash := PyData.keyHash P (Str.ofString "__spec__"), key := Value.str (Str.ofString "__spec__") 169, val := Value.none }, { hash := PyData.keyHash P (Str.ofString "__annotations__"), key := Value.str (Str.ofString "__annotations__") 170, val := Value.ref 6 }, { hash := PyData.keyHash P (Str.ofString "__builtins__"), key := Value.str (Str.ofString "__builtins__") 171, val := Value.ref 4 }, { hash := PyData.keyHash P (Str.ofString "__file__"), key := Value.str (Str.ofString "__file__") 173, val := Value.str (Str.ofString "/claim/cut.py") 172 }, { hash := PyData.keyHash P (Str.ofString "__cached__"), key := Value.str (Str.ofString "__cached__") 174, val := Value.none }, { hash := PyData.keyHash P (Str.ofString "_wall"), key := Value.str (Str.ofString "_wall") 193, val := Value.ref 21 }, { hash := PyData.keyHash P (Str.ofString "NL"), key := Value.str (Str.ofString "NL") 197, val := Value.str (Str.ofString "\n") 196 }, { hash := PyData.keyHash P (Str.ofString "EMPTYSTRING"), key := Value.str (Str.ofString "EMPTYSTRING") 199, val := Value.str (Str.ofString "") 198 }, { hash := PyData.keyHash P (Str.ofString "_ValueFormatter"), key := Value.str (Str.ofString "_ValueFormatter") 307, val := Value.ref 94 }, { hash := PyData.keyHash P (Str.ofString "_Accumulator"), key := Value.str (Str.ofString "_Accumulator") 403, val := Value.ref 178 }, { hash := PyData.keyHash P (Str.ofString "Whitespace"), key := Value.str (Str.ofString "Whitespace") 503, val := Value.ref 244 }, { hash := PyData.keyHash P (Str.ofString "_raise_serialization_error"), key := Value.str (Str.ofString "_raise_serialization_error") 512, val := Value.ref 255 }, { hash := PyData.keyHash P (Str.ofString "_escape_attrib"), key := Value.str (Str.ofString "_escape_attrib") 519, val := Value.ref 262 }, { hash := PyData.keyHash P (Str.ofString "_escape_attrib_c14n"), key := Value.str (Str.ofString "_escape_attrib_c14n") 526, val := Value.ref 269 }, { hash := PyData.keyHash P (Str.ofString "_law_drawn"), key := Value.str (Str.ofString "_law_drawn") 537, val := Value.ref 276 }, { hash := PyData.keyHash P (Str.ofString "_law_measure"), key := Value.str (Str.ofString "_law_measure") 545, val := Value.ref 283 }, { hash := PyData.keyHash P (Str.ofString "_law_lead"), key := Value.str (Str.ofString "_law_lead") 551, val := Value.ref 288 }, { hash := PyData.keyHash P (Str.ofString "_law_gaps"), key := Value.str (Str.ofString "_law_gaps") 565, val := Value.ref 295 }, { hash := PyData.keyHash P (Str.ofString "_law_counts"), key := Value.str (Str.ofString "_law_counts") 571, val := Value.ref 300 }, { hash := PyData.keyHash P (Str.ofString "_law_name"), key := Value.str (Str.ofString "_law_name") 579, val := Value.ref 307 }, { hash := PyData.keyHash P (Str.ofString "_law_rows"), key := Value.str (Str.ofString "_law_rows") 592, val := Value.ref 314 }, { hash := PyData.keyHash P (Str.ofString "law"), key := Value.str (Str.ofString "law") 598, val := Value.ref 319 }] 26 }),
  (4, { cls := Value.type "module", dict := Option.some 0 }),
  (5, { cls := Value.type "module", dict := Option.some 3 }),
  (6, { cls := Value.type "dict", data := Data.dict #[] }),
  (34, { cls := Value.type "code", data := Data.fields #[Value.str (Str.ofString "__init__") 212, Value.str (Str.ofString "_ValueFormatter.__init__") 213, Value.str (Str.ofString "/claim/cut.py") 214, Value.int 9 0, Value.int 5 0, Value.int 0 0, Value.int 0 0, Value.int 3 0, Value.ref 29, Value.bool true, Value.int 181 0, Value.ref 30, Value.none, Value.ref 31, Value.ref 32, Value.ref 33, Value.int 220 0, Value.int 9 0, Value.str (Str.ofString "/claim/cut.py") 221] }),
  (35, { cls := Value.type "function", data := Data.func { name := Str.ofString "__init__", qualname := Str.ofString "_ValueFormatter.__init__", params := tArgs (tMeth 4 0), body := FuncBody.stmts (tBody (tMeth 4 0)), scope := tScope (tMeth 4 0), globals := 3, closure := [], defaults := Value.none, kwdefaults := Value.none, pyModule := Value.str (Str.ofString "cpy313.email.header") 194, code := Value.ref 34 } }),
  (41, { cls := Value.type "code", data := Data.fields #[Value.str (Str.ofString "_str") 223, Value.str (Str.ofString "_ValueFormatter._str") 224, Value.str (Str.ofString "/claim/cut.py") 225, Value.int 17 0, Value.int 2 0, Value.int 0 0, Value.int 0 0, Value.int 3 0, Value.ref 36, Value.bool true, Value.int 181 0, Value.ref 37, Value.none, Value.ref 38, Value.ref 39, Value.ref 40, Value.int 228 0, Value.int 17 0, Value.str (Str.ofString "/claim/cut.py") 229] }),
  (42, { cls := Value.type "function", data := Data.func { name := Str.ofString "_str", qualname := Str.ofString "_ValueFormatter._str", params := tArgs (tMeth 4 1), body := FuncBody.stmts (tBody (tMeth 4 1)), scope := tScope (tMeth 4 1), globals := 3, closure := [], defaults := Value.none, kwdefaults := Value.none, pyModule := Value.str (Str.ofString "cpy313.email.header") 194, code := Value.ref 41 } }),
  (55, { cls := Value.type "code", data := Data.fields #[Value.str (Str.ofString "newline") 238, Value.str (Str.ofString "_ValueFormatter.newline") 239, Value.str (Str.ofString "/claim/cut.py") 240, Value.int 24 0, Value.int 1 0, Value.int 0 0, Value.int 0 0, Value.int 3 0, Value.ref 50, Value.bool true, Value.int 181 0, Value.ref 51, Value.none, Value.ref 52, Value.ref 53, Value.ref 54, Value.int 243 0, Value.int 24 0, Value.str (Str.ofString "/claim/cut.py") 244] }),
  (56, { cls := Value.type "function", data := Data.func { name := Str.ofString "newline", qualname := Str.ofString "_ValueFormatter.newline", params := tArgs (tMeth 4 3), body := FuncBody.stmts (tBody (tMeth 4 3)), scope := tScope (tMeth 4 3), globals := 3, closure := [], defaults := Value.none, kwdefaults := Value.none, pyModule := Value.str (Str.ofString "cpy313.email.header") 194, code := Value.ref 55 } }),
  (90, { cls := Value.type "code", data := Data.fields #[Value.str (Str.ofString "_append_chunk") 280, Value.str (Str.ofString "_ValueFormatter._append_chunk") 281, Value.str (Str.ofString "/claim/cut.py") 282, Value.int 47 0, Value.int 3 0, Value.int 0 0, Value.int 0 0, Value.int 3 0, Value.ref 85, Value.bool true, Value.int 181 0, Value.ref 86, Value.none, Value.ref 87, Value.ref 88, Value.ref 89, Value.int 291 0, Value.int 47 0, Value.str (Str.ofString "/claim/cut.py") 292] }),
  (91, { cls := Value.type "function", data := Data.func { name := Str.ofString "_append_chunk", qualname := Str.ofString "_ValueFormatter._append_chunk", params := tArgs (tMeth 4 8), body := FuncBody.stmts (tBody (tMeth 4 8)), scope := tScope (tMeth 4 8), globals := 3, closure := [], defaults := Value.none, kwdefaults := Value.none, pyModule := Value.str (Str.ofString "cpy313.email.header") 194, code := Value.ref 90 } }),
  (93, { cls := Value.type "dict", data := Data.dict #[{ hash := PyData.keyHash P (Str.ofString "__module__"), key := Value.str (Str.ofString "__module__") 207, val := Value.str (Str.ofString "cpy313.email.header") 194 }, { hash := PyData.keyHash P (Str.ofString "__firstlineno__"), key := Value.str (Str.ofString "__firstlineno__") 211, val := Value.int 7 210 }, { hash := PyData.keyHash P (Str.ofString "__init__"), key := Value.str (Str.ofString "__init__") 222, val := Value.ref 35 }, { hash := PyData.keyHash P (Str.ofString "_str"), key := Value.str (Str.ofString "_str") 230, val := Value.ref 42 }, { hash := PyData.keyHash P (Str.ofString "__str__"), key := Value.str (Str.ofString "__str__") 237, val := Value.ref 49 }, { hash := PyData.keyHash P (Str.ofString "newline"), key := Value.str (Str.ofString "newline") 245, val := Value.ref 56 }, { hash := PyData.keyHash P (Str.ofString "add_transition"), key := Value.str (Str.ofString "add_transition") 252, val := Value.ref 63 }, { hash := PyData.keyHash P (Str.ofString "feed"), key := Value.str (Str.ofString "feed") 262, val := Value.ref 70 }, { hash := PyData.keyHash P (Str.ofString "_maxlengths"), key := Value.str (Str.ofString "_maxlengths") 269, val := Value.ref 77 }, { hash := PyData.keyHash P (Str.ofString "_ascii_split"), key := Value.str (Str.ofString "_ascii_split") 279, val := Value.ref 84 }, { hash := PyData.keyHash P (Str.ofString "_append_chunk"), key := Value.str (Str.ofString "_append_chunk") 293, val := Value.ref 91 }, { hash := PyData.keyHash P (Str.ofString "__static_attributes__"), key := Value.str (Str.ofString "__static_attributes__") 300, val := Value.ref 92 }, { hash := PyData.keyHash P (Str.ofString "__dict__"), key := Value.str (Str.ofString "__dict__") 302, val := Value.ref 95 }, { hash := PyData.keyHash P (Str.ofString "__weakref__"), key := Value.str (Str.ofString "__weakref__") 304, val := Value.ref 96 }, { hash := PyData.keyHash P (Str.ofString "__doc__"), key := Value.str (Str.ofString "__doc__") 305, val := Value.none }] 4 }),
  (94, { cls := Value.type "type", data := Data.cls { name := Str.ofString "_ValueFormatter", bases := [Value.type "object"], mro := [Value.ref 94, Value.type "object"], ns := 93, qualname := Str.ofString "_ValueFormatter" }, slots := #[none, none, Option.some (Value.str (Str.ofString "_ValueFormatter") 200), Option.some (Value.str (Str.ofString "_ValueFormatter") 208), Option.some (Value.builtin "object.__new__"), Option.some (Value.bool true)] }),
  (95, { cls := Value.type "getset_descriptor", data := Data.fields #[Value.str (Str.ofString "__dict__") 301, Value.ref 94, Value.builtin "function.__dict__", Value.builtin "function.__dict__#set"] }),
  (96, { cls := Value.type "getset_descriptor", data := Data.fields #[Value.str (Str.ofString "__weakref__") 303, Value.ref 94, Value.builtin "ExceptionGroup.__weakref__", Value.none] }),
  (102, { cls := Value.type "cell", data := Data.cell (Option.some (Value.ref 178)) }),
  (107, { cls := Value.type "tuple", data := Data.seq #[Value.int 0 320] }),
  (114, { cls := Value.type "code", data := Data.fields #[Value.str (Str.ofString "__init__") 321, Value.str (Str.ofString "_Accumulator.__init__") 322, Value.str (Str.ofString "/claim/cut.py") 323, Value.int 75 0, Value.int 2 0, Value.int 0 0, Value.int 0 0, Value.int 3 0, Value.ref 109, Value.bool true, Value.int 181 0, Value.ref 110, Value.none, Value.ref 111, Value.ref 112, Value.ref 113, Value.int 327 0, Value.int 75 0, Value.str (Str.ofString "/claim/cut.py") 328] }),
  (115, { cls := Value.type "function", data := Data.func { name := Str.ofString "__init__", qualname := Str.ofString "_Accumulator.__init__", params := tArgs (tMeth 5 0), body := FuncBody.stmts (tBody (tMeth 5 0)), scope := tScope (tMeth 5 0), globals := 3, closure := [(Str.ofString "__class__", 102)], defaults := Value.ref 107, kwdefaults := Value.none, pyModule := Value.str (Str.ofString "cpy313.email.header") 194, code := Value.ref 114, closureTuple := Value.ref 108 } }),
  (121, { cls := Value.type "code", data := Data.fields #[Value.str (Str.ofString "push") 330, Value.str (Str.ofString "_Accumulator.push") 331, Value.str (Str.ofString "/claim/cut.py") 332, Value.int 79 0, Value.int 3 0, Value.int 0 0, Value.int 0 0, Value.int 3 0, Value.ref 116, Value.bool true, Value.int 181 0, Value.ref 117, Value.none, Value.ref 118, Value.ref 119, Value.ref 120, Value.int 336 0, Value.int 79 0, Value.str (Str.ofString "/claim/cut.py") 337] }),
  (122, { cls := Value.type "function", data := Data.func { name := Str.ofString "push", qualname := Str.ofString "_Accumulator.push", params := tArgs (tMeth 5 1), body := FuncBody.stmts (tBody (tMeth 5 1)), scope := tScope (tMeth 5 1), globals := 3, closure := [], defaults := Value.none, kwdefaults := Value.none, pyModule := Value.str (Str.ofString "cpy313.email.header") 194, code := Value.ref 121 } }),
  (123, { cls := Value.type "tuple", data := Data.seq #[Value.int 0 339] }),
  (129, { cls := Value.type "code", data := Data.fields #[Value.str (Str.ofString "pop_from") 340, Value.str (Str.ofString "_Accumulator.pop_from") 341, Value.str (Str.ofString "/claim/cut.py") 342, Value.int 82 0, Value.int 2 0, Value.int 0 0, Value.int 0 0, Value.int 3 0, Value.ref 124, Value.bool true, Value.int 181 0, Value.ref 125, Value.none, Value.ref 126, Value.ref 127, Value.ref 128, Value.int 346 0, Value.int 82 0, Value.str (Str.ofString "/claim/cut.py") 347] }),
  (130, { cls := Value.type "function", data := Data.func { name := Str.ofString "pop_from", qualname := Str.ofString "_Accumulator.pop_from", params := tArgs (tMeth 5 2), body := FuncBody.stmts (tBody (tMeth 5 2)), scope := tScope (tMeth 5 2), globals := 3, closure := [], defaults := Value.ref 123, kwdefaults := Value.none, pyModule := Value.str (Str.ofString "cpy313.email.header") 194, code := Value.ref 129 } }),
  (137, { cls := Value.type "code", data := Data.fields #[Value.str (Str.ofString "pop") 349, Value.str (Str.ofString "_Accumulator.pop") 350, Value.str (Str.ofString "/claim/cut.py") 351, Value.int 87 0, Value.int 1 0, Value.int 0 0, Value.int 0 0, Value.int 3 0, Value.ref 132, Value.bool true, Value.int 181 0, Value.ref 133, Value.none, Value.ref 134, Value.ref 135, Value.ref 136, Value.int 354 0, Value.int 87 0, Value.str (Str.ofString "/claim/cut.py") 355] }),
  (138, { cls := Value.type "function", data := Data.func { name := Str.ofString "pop", qualname := Str.ofString "_Accumulator.pop", params := tArgs (tMeth 5 3), body := FuncBody.stmts (tBody (tMeth 5 3)), scope := tScope (tMeth 5 3), globals := 3, closure := [(Str.ofString "__class__", 102)], defaults := Value.none, kwdefaults := Value.none, pyModule := Value.str (Str.ofString "cpy313.email.header") 194, code := Value.ref 137, closureTuple := Value.ref 131 } }),
  (140, { cls := Value.none, data := Data.fields #[] }),
  (144, { cls := Value.type "code", data := Data.fields #[Value.str (Str.ofString "__len__") 357, Value.str (Str.ofString "_Accumulator.__len__") 358, Value.str (Str.ofString "/claim/cut.py") 359, Value.int 92 0, Value.int 1 0, Value.int 0 0, Value.int 0 0, Value.int 3 0, Value.ref 139, Value.bool true, Value.int 181 0, Value.ref 140, Value.none, Value.ref 141, Value.ref 142, Value.ref 143, Value.int 361 0, Value.int 92 0, Value.str (Str.ofString "/claim/cut.py") 362] }),
  (145, { cls := Value.type "function", data := Data.func { name := Str.ofString "__len__", qualname := Str.ofString "_Accumulator.__len__", params := tArgs (tMeth 5 4), body := FuncBody.stmts (tBody (tMeth 5 4)), scope := tScope (tMeth 5 4), globals := 3, closure := [], defaults := Value.none, kwdefaults := Value.none, pyModule := Value.str (Str.ofString "cpy313.email.header") 194, code := Value.ref 144 } }),
  (147, { cls := Value.none, data := Data.fields #[] }),
  (151, { cls := Value.type "code", data := Data.fields #[Value.str (Str.ofString "__str__") 364, Value.str (Str.ofString "_Accumulator.__str__") 365, Value.str (Str.ofString "/claim/cut.py") 366, Value.int 95 0, Value.int 1 0, Value.int 0 0, Value.int 0 0, Value.int 3 0, Value.ref 146, Value.bool true, Value.int 181 0, Value.ref 147, Value.none, Value.ref 148, Value.ref 149, Value.ref 150, Value.int 368 0, Value.int 95 0, Value.str (Str.ofString "/claim/cut.py") 369] }),
  (152, { cls := Value.type "function", data := Data.func { name := Str.ofString "__str__", qualname := Str.ofString "_Accumulator.__str__", params := tArgs (tMeth 5 5), body := FuncBody.stmts (tBody (tMeth 5 5)), scope := tScope (tMeth 5 5), globals := 3, closure := [], defaults := Value.none, kwdefaults := Value.none, pyModule := Value.str (Str.ofString "cpy313.email.header") 194, code := Value.ref 151 } }),
  (153, { cls := Value.type "tuple", data := Data.seq #[Value.none] }),
  (159, { cls := Value.type "code", data := Data.fields #[Value.str (Str.ofString "reset") 371, Value.str (Str.ofString "_Accumulator.reset") 372, Value.str (Str.ofString "/claim/cut.py") 373, Value.int 98 0, Value.int 2 0, Value.int 0 0, Value.int 0 0, Value.int 3 0, Value.ref 154, Value.bool true, Value.int 181 0, Value.ref 155, Value.none, Value.ref 156, Value.ref 157, Value.ref 158, Value.int 376 0, Value.int 98 0, Value.str (Str.ofString "/claim/cut.py") 377] }),
  (160, { cls := Value.type "function", data := Data.func { name := Str.ofString "reset", qualname := Str.ofString "_Accumulator.reset", params := tArgs (tMeth 5 6), body := FuncBody.stmts (tBody (tMeth 5 6)), scope := tScope (tMeth 5 6), globals := 3, closure := [], defaults := Value.ref 153, kwdefaults := Value.none, pyModule := Value.str (Str.ofString "cpy313.email.header") 194, code := Value.ref 159 } }),
  (166, { cls := Value.type "code", data := Data.fields #[Value.str (Str.ofString "is_onlyws") 379, Value.str (Str.ofString "_Accumulator.is_onlyws") 380, Value.str (Str.ofString "/claim/cut.py") 381, Value.int 104 0, Value.int 1 0, Value.int 0 0, Value.int 0 0, Value.int 3 0, Value.ref 161, Value.bool true, Value.int 181 0, Value.ref 162, Value.none, Value.ref 163, Value.ref 164, Value.ref 165, Value.int 383 0, Value.int 104 0, Value.str (Str.ofString "/claim/cut.py") 384] }),
  (167, { cls := Value.type "function", data := Data.func { name := Str.ofString "is_onlyws", qualname := Str.ofString "_Accumulator.is_onlyws", params := tArgs (tMeth 5 7), body := FuncBody.stmts (tBody (tMeth 5 7)), scope := tScope (tMeth 5 7), globals := 3, closure := [], defaults := Value.none, kwdefaults := Value.none, pyModule := Value.str (Str.ofString "cpy313.email.header") 194, code := Value.ref 166 } }),
  (174, { cls := Value.type "code", data := Data.fields #[Value.str (Str.ofString "part_count") 386, Value.str (Str.ofString "_Accumulator.part_count") 387, Value.str (Str.ofString "/claim/cut.py") 388, Value.int 107 0, Value.int 1 0, Value.int 0 0, Value.int 0 0, Value.int 3 0, Value.ref 169, Value.bool true, Value.int 181 0, Value.ref 170, Value.none, Value.ref 171, Value.ref 172, Value.ref 173, Value.int 391 0, Value.int 107 0, Value.str (Str.ofString "/claim/cut.py") 392] }),
  (175, { cls := Value.type "function", data := Data.func { name := Str.ofString "part_count", qualname := Str.ofString "_Accumulator.part_count", params := tArgs (tMeth 5 8), body := FuncBody.stmts (tBody (tMeth 5 8)), scope := tScope (tMeth 5 8), globals := 3, closure := [(Str.ofString "__class__", 102)], defaults := Value.none, kwdefaults := Value.none, pyModule := Value.str (Str.ofString "cpy313.email.header") 194, code := Value.ref 174, closureTuple := Value.ref 168 } }),
  (177, { cls := Value.type "dict", data := Data.dict #[{ hash := PyData.keyHash P (Str.ofString "__module__"), key := Value.str (Str.ofString "__module__") 315, val := Value.str (Str.ofString "cpy313.email.header") 194 }, { hash := PyData.keyHash P (Str.ofString "__firstlineno__"), key := Value.str (Str.ofString "__firstlineno__") 319, val := Value.int 73 318 }, { hash := PyData.keyHash P (Str.ofString "__init__"), key := Value.str (Str.ofString "__init__") 329, val := Value.ref 115 }, { hash := PyData.keyHash P (Str.ofString "push"), key := Value.str (Str.ofString "push") 338, val := Value.ref 122 }, { hash := PyData.keyHash P (Str.ofString "pop_from"), key := Value.str (Str.ofString "pop_from") 348, val := Value.ref 130 }, { hash := PyData.keyHash P (Str.ofString "pop"), key := Value.str (Str.ofString "pop") 356, val := Value.ref 138 }, { hash := PyData.keyHash P (Str.ofString "__len__"), key := Value.str (Str.ofString "__len__") 363, val := Value.ref 145 }, { hash := PyData.keyHash P (Str.ofString "__str__"), key := Value.str (Str.ofString "__str__") 370, val := Value.ref 152 }, { hash := PyData.keyHash P (Str.ofString "reset"), key := Value.str (Str.ofString "reset") 378, val := Value.ref 160 }, { hash := PyData.keyHash P (Str.ofString "is_onlyws"), key := Value.str (Str.ofString "is_onlyws") 385, val := Value.ref 167 }, { hash := PyData.keyHash P (Str.ofString "part_count"), key := Value.str (Str.ofString "part_count") 393, val := Value.ref 175 }, { hash := PyData.keyHash P (Str.ofString "__static_attributes__"), key := Value.str (Str.ofString "__static_attributes__") 395, val := Value.ref 176 }, { hash := PyData.keyHash P (Str.ofString "__dict__"), key := Value.str (Str.ofString "__dict__") 398, val := Value.ref 179 }, { hash := PyData.keyHash P (Str.ofString "__weakref__"), key := Value.str (Str.ofString "__weakref__") 400, val := Value.ref 180 }, { hash := PyData.keyHash P (Str.ofString "__doc__"), key := Value.str (Str.ofString "__doc__") 401, val := Value.none }] 5 }),
  (178, { cls := Value.type "type", data := Data.cls { name := Str.ofString "_Accumulator", bases := [Value.type "list"], mro := [Value.ref 178, Value.type "list", Value.type "object"], ns := 177, qualname := Str.ofString "_Accumulator" }, slots := #[Option.some (Value.ref 99), none, Option.some (Value.str (Str.ofString "_Accumulator") 308), Option.some (Value.str (Str.ofString "_Accumulator") 316), Option.some (Value.builtin "list.__new__"), Option.some (Value.bool true)] }),
  (179, { cls := Value.type "getset_descriptor", data := Data.fields #[Value.str (Str.ofString "__dict__") 397, Value.ref 178, Value.builtin "function.__dict__", Value.builtin "function.__dict__#set"] }),
  (180, { cls := Value.type "getset_descriptor", data := Data.fields #[Value.str (Str.ofString "__weakref__") 399, Value.ref 178, Value.builtin "ExceptionGroup.__weakref__", Value.none] }),
  (198, { cls := Value.type "code", data := Data.fields #[Value.str (Str.ofString "__init__") 423, Value.str (Str.ofString "Whitespace.__init__") 424, Value.str (Str.ofString "/claim/cut.py") 425, Value.int 113 0, Value.int 2 0, Value.int 0 0, Value.int 0 0, Value.int 3 0, Value.ref 193, Value.bool true, Value.int 181 0, Value.ref 194, Value.none, Value.ref 195, Value.ref 196, Value.ref 197, Value.int 435 0, Value.int 113 0, Value.str (Str.ofString "/claim/cut.py") 436] }),
  (199, { cls := Value.type "function", data := Data.func { name := Str.ofString "__init__", qualname := Str.ofString "Whitespace.__init__", params := tArgs (tMeth 7 1), body := FuncBody.stmts (tBody (tMeth 7 1)), scope := tScope (tMeth 7 1), globals := 3, closure := [], defaults := Value.none, kwdefaults := Value.none, pyModule := Value.str (Str.ofString "cpy313.tabnanny") 404, code := Value.ref 198 } }),
  (205, { cls := Value.type "code", data := Data.fields #[Value.str (Str.ofString "longest_run_of_spaces") 438, Value.str (Str.ofString "Whitespace.longest_run_of_spaces") 439, Value.str (Str.ofString "/claim/cut.py") 440, Value.int 136 0, Value.int 1 0, Value.int 0 0, Value.int 0 0, Value.int 3 0, Value.ref 200, Value.bool true, Value.int 181 0, Value.ref 201, Value.none, Value.ref 202, Value.ref 203, Value.ref 204, Value.int 444 0, Value.int 136 0, Value.str (Str.ofString "/claim/cut.py") 445] }),
  (206, { cls := Value.type "function", data := Data.func { name := Str.ofString "longest_run_of_spaces", qualname := Str.ofString "Whitespace.longest_run_of_spaces", params := tArgs (tMeth 7 2), body := FuncBody.stmts (tBody (tMeth 7 2)), scope := tScope (tMeth 7 2), globals := 3, closure := [], defaults := Value.none, kwdefaults := Value.none, pyModule := Value.str (Str.ofString "cpy313.tabnanny") 404, code := Value.ref 205 } }),
  (212, { cls := Value.type "code", data := Data.fields #[Value.str (Str.ofString "indent_level") 447, Value.str (Str.ofString "Whitespace.indent_level") 448, Value.str (Str.ofString "/claim/cut.py") 449, Value.int 140 0, Value.int 2 0, Value.int 0 0, Value.int 0 0, Value.int 3 0, Value.ref 207, Value.bool true, Value.int 181 0, Value.ref 208, Value.none, Value.ref 209, Value.ref 210, Value.ref 211, Value.int 456 0, Value.int 140 0, Value.str (Str.ofString "/claim/cut.py") 457] }),
  (213, { cls := Value.type "function", data := Data.func { name := Str.ofString "indent_level", qualname := Str.ofString "Whitespace.indent_level", params := tArgs (tMeth 7 3), body := FuncBody.stmts (tBody (tMeth 7 3)), scope := tScope (tMeth 7 3), globals := 3, closure := [], defaults := Value.none, kwdefaults := Value.none, pyModule := Value.str (Str.ofString "cpy313.tabnanny") 404, code := Value.ref 212 } }),
  (219, { cls := Value.type "code", data := Data.fields #[Value.str (Str.ofString "equal") 459, Value.str (Str.ofString "Whitespace.equal") 460, Value.str (Str.ofString "/claim/cut.py") 461, Value.int 147 0, Value.int 2 0, Value.int 0 0, Value.int 0 0, Value.int 3 0, Value.ref 214, Value.bool true, Value.int 181 0, Value.ref 215, Value.none, Value.ref 216, Value.ref 217, Value.ref 218, Value.int 464 0, Value.int 147 0, Value.str (Str.ofString "/claim/cut.py") 465] }),
  (220, { cls := Value.type "function", data := Data.func { name := Str.ofString "equal", qualname := Str.ofString "Whitespace.equal", params := tArgs (tMeth 7 4), body := FuncBody.stmts (tBody (tMeth 7 4)), scope := tScope (tMeth 7 4), globals := 3, closure := [], defaults := Value.none, kwdefaults := Value.none, pyModule := Value.str (Str.ofString "cpy313.tabnanny") 404, code := Value.ref 219 } }),
  (243, { cls := Value.type "dict", data := Data.dict #[{ hash := PyData.keyHash P (Str.ofString "__module__"), key := Value.str (Str.ofString "__module__") 413, val := Value.str (Str.ofString "cpy313.tabnanny") 404 }, { hash := PyData.keyHash P (Str.ofString "__firstlineno__"), key := Value.str (Str.ofString "__firstlineno__") 417, val := Value.int 110 416 }, { hash := PyData.keyHash P (Str.ofString "S"), key := Value.str (Str.ofString "S") 421, val := Value.str (Str.ofString " ") 419 }, { hash := PyData.keyHash P (Str.ofString "T"), key := Value.str (Str.ofString "T") 422, val := Value.str (Str.ofString "\t") 420 }, { hash := PyData.keyHash P (Str.ofString "__init__"), key := Value.str (Str.ofString "__init__") 437, val := Value.ref 199 }, { hash := PyData.keyHash P (Str.ofString "longest_run_of_spaces"), key := Value.str (Str.ofString "longest_run_of_spaces") 446, val := Value.ref 206 }, { hash := PyData.keyHash P (Str.ofString "indent_level"), key := Value.str (Str.ofString "indent_level") 458, val := Value.ref 213 }, { hash := PyData.keyHash P (Str.ofString "equal"), key := Value.str (Str.ofString "equal") 466, val := Value.ref 220 }, { hash := PyData.keyHash P (Str.ofString "not_equal_witness"), key := Value.str (Str.ofString "not_equal_witness") 474, val := Value.ref 227 }, { hash := PyData.keyHash P (Str.ofString "less"), key := Value.str (Str.ofString "less") 482, val := Value.ref 234 }, { hash := PyData.keyHash P (Str.ofString "not_less_witness"), key := Value.str (Str.ofString "not_less_witness") 490, val := Value.ref 241 }, { hash := PyData.keyHash P (Str.ofString "__static_attributes__"), key := Value.str (Str.ofString "__static_attributes__") 496, val := Value.ref 242 }, { hash := PyData.keyHash P (Str.ofString "__dict__"), key := Value.str (Str.ofString "__dict__") 498, val := Value.ref 245 }, { hash := PyData.keyHash P (Str.ofString "__weakref__"), key := Value.str (Str.ofString "__weakref__") 500, val := Value.ref 246 }, { hash := PyData.keyHash P (Str.ofString "__doc__"), key := Value.str (Str.ofString "__doc__") 501, val := Value.none }] 4 }),
  (244, { cls := Value.type "type", data := Data.cls { name := Str.ofString "Whitespace", bases := [Value.type "object"], mro := [Value.ref 244, Value.type "object"], ns := 243, qualname := Str.ofString "Whitespace" }, slots := #[none, none, Option.some (Value.str (Str.ofString "Whitespace") 406), Option.some (Value.str (Str.ofString "Whitespace") 414), Option.some (Value.builtin "object.__new__"), Option.some (Value.bool true)] }),
  (245, { cls := Value.type "getset_descriptor", data := Data.fields #[Value.str (Str.ofString "__dict__") 497, Value.ref 244, Value.builtin "function.__dict__", Value.builtin "function.__dict__#set"] }),
  (246, { cls := Value.type "getset_descriptor", data := Data.fields #[Value.str (Str.ofString "__weakref__") 499, Value.ref 244, Value.builtin "ExceptionGroup.__weakref__", Value.none] }),
  (261, { cls := Value.type "code", data := Data.fields #[Value.str (Str.ofString "_escape_attrib") 513, Value.str (Str.ofString "_escape_attrib") 514, Value.str (Str.ofString "/claim/cut.py") 515, Value.int 161 0, Value.int 1 0, Value.int 0 0, Value.int 0 0, Value.int 3 0, Value.ref 256, Value.bool true, Value.int 181 0, Value.ref 257, Value.none, Value.ref 258, Value.ref 259, Value.ref 260, Value.int 517 0, Value.int 161 0, Value.str (Str.ofString "/claim/cut.py") 518] }),
  (262, { cls := Value.type "function", data := Data.func { name := Str.ofString "_escape_attrib", qualname := Str.ofString "_escape_attrib", params := tArgs (tStmt 10), body := FuncBody.stmts (tBody (tStmt 10)), scope := tScope (tStmt 10), globals := 3, closure := [], defaults := Value.none, kwdefaults := Value.none, pyModule := Value.str (Str.ofString "cpy313.xml.etree.ElementTree") 504, code := Value.ref 261 } }),
  (268, { cls := Value.type "code", data := Data.fields #[Value.str (Str.ofString "_escape_attrib_c14n") 520, Value.str (Str.ofString "_escape_attrib_c14n") 521, Value.str (Str.ofString "/claim/cut.py") 522, Value.int 180 0, Value.int 1 0, Value.int 0 0, Value.int 0 0, Value.int 3 0, Value.ref 263, Value.bool true, Value.int 181 0, Value.ref 264, Value.none, Value.ref 265, Value.ref 266, Value.ref 267, Value.int 524 0, Value.int 180 0, Value.str (Str.ofString "/claim/cut.py") 525] }),
  (269, { cls := Value.type "function", data := Data.func { name := Str.ofString "_escape_attrib_c14n", qualname := Str.ofString "_escape_attrib_c14n", params := tArgs (tStmt 11), body := FuncBody.stmts (tBody (tStmt 11)), scope := tScope (tStmt 11), globals := 3, closure := [], defaults := Value.none, kwdefaults := Value.none, pyModule := Value.str (Str.ofString "cpy313.xml.etree.ElementTree") 504, code := Value.ref 268 } }),
  (275, { cls := Value.type "code", data := Data.fields #[Value.str (Str.ofString "_law_drawn") 529, Value.str (Str.ofString "_law_drawn") 530, Value.str (Str.ofString "/claim/cut.py") 531, Value.int 198 0, Value.int 1 0, Value.int 0 0, Value.int 0 0, Value.int 3 0, Value.ref 270, Value.bool true, Value.int 181 0, Value.ref 271, Value.none, Value.ref 272, Value.ref 273, Value.ref 274, Value.int 535 0, Value.int 198 0, Value.str (Str.ofString "/claim/cut.py") 536] }),
  (276, { cls := Value.type "function", data := Data.func { name := Str.ofString "_law_drawn", qualname := Str.ofString "_law_drawn", params := tArgs (tStmt 13), body := FuncBody.stmts (tBody (tStmt 13)), scope := tScope (tStmt 13), globals := 3, closure := [], defaults := Value.none, kwdefaults := Value.none, pyModule := Value.str (Str.ofString "law_xc0037_01") 527, code := Value.ref 275 } }),
  (282, { cls := Value.type "code", data := Data.fields #[Value.str (Str.ofString "_law_measure") 538, Value.str (Str.ofString "_law_measure") 539, Value.str (Str.ofString "/claim/cut.py") 540, Value.int 203 0, Value.int 2 0, Value.int 0 0, Value.int 0 0, Value.int 3 0, Value.ref 277, Value.bool true, Value.int 181 0, Value.ref 278, Value.none, Value.ref 279, Value.ref 280, Value.ref 281, Value.int 543 0, Value.int 203 0, Value.str (Str.ofString "/claim/cut.py") 544] }),
  (283, { cls := Value.type "function", data := Data.func { name := Str.ofString "_law_measure", qualname := Str.ofString "_law_measure", params := tArgs (tStmt 14), body := FuncBody.stmts (tBody (tStmt 14)), scope := tScope (tStmt 14), globals := 3, closure := [], defaults := Value.none, kwdefaults := Value.none, pyModule := Value.str (Str.ofString "law_xc0037_01") 527, code := Value.ref 282 } }),
  (287, { cls := Value.type "code", data := Data.fields #[Value.str (Str.ofString "_law_lead") 546, Value.str (Str.ofString "_law_lead") 547, Value.str (Str.ofString "/claim/cut.py") 548, Value.int 207 0, Value.int 5 0, Value.int 0 0, Value.int 0 0, Value.int 3 0, Value.ref 284, Value.bool true, Value.int 181 0, Value.ref 285, Value.none, Value.none, Value.none, Value.ref 286, Value.int 549 0, Value.int 207 0, Value.str (Str.ofString "/claim/cut.py") 550] }),
  (288, { cls := Value.type "function", data := Data.func { name := Str.ofString "_law_lead", qualname := Str.ofString "_law_lead", params := tArgs (tStmt 15), body := FuncBody.stmts (tBody (tStmt 15)), scope := tScope (tStmt 15), globals := 3, closure := [], defaults := Value.none, kwdefaults := Value.none, pyModule := Value.str (Str.ofString "law_xc0037_01") 527, code := Value.ref 287 } }),
  (294, { cls := Value.type "code", data := Data.fields #[Value.str (Str.ofString "_law_gaps") 552, Value.str (Str.ofString "_law_gaps") 553, Value.str (Str.ofString "/claim/cut.py") 554, Value.int 219 0, Value.int 5 0, Value.int 0 0, Value.int 0 0, Value.int 3 0, Value.ref 289, Value.bool true, Value.int 181 0, Value.ref 290, Value.none, Value.ref 291, Value.ref 292, Value.ref 293, Value.int 563 0, Value.int 219 0, Value.str (Str.ofString "/claim/cut.py") 564] }),
  (295, { cls := Value.type "function", data := Data.func { name := Str.ofString "_law_gaps", qualname := Str.ofString "_law_gaps", params := tArgs (tStmt 16), body := FuncBody.stmts (tBody (tStmt 16)), scope := tScope (tStmt 16), globals := 3, closure := [], defaults := Value.none, kwdefaults := Value.none, pyModule := Value.str (Str.ofString "law_xc0037_01") 527, code := Value.ref 294 } }),
  (299, { cls := Value.type "code", data := Data.fields #[Value.str (Str.ofString "_law_counts") 566, Value.str (Str.ofString "_law_counts") 567, Value.str (Str.ofString "/claim/cut.py") 568, Value.int 233 0, Value.int 1 0, Value.int 0 0, Value.int 0 0, Value.int 3 0, Value.ref 296, Value.bool true, Value.int 181 0, Value.ref 297, Value.none, Value.none, Value.none, Value.ref 298, Value.int 569 0, Value.int 233 0, Value.str (Str.ofString "/claim/cut.py") 570] }),
  (300, { cls := Value.type "function", data := Data.func { name := Str.ofString "_law_counts", qualname := Str.ofString "_law_counts", params := tArgs (tStmt 17), body := FuncBody.stmts (tBody (tStmt 17)), scope := tScope (tStmt 17), globals := 3, closure := [], defaults := Value.none, kwdefaults := Value.none, pyModule := Value.str (Str.ofString "law_xc0037_01") 527, code := Value.ref 299 } }),
  (306, { cls := Value.type "code", data := Data.fields #[Value.str (Str.ofString "_law_name") 572, Value.str (Str.ofString "_law_name") 573, Value.str (Str.ofString "/claim/cut.py") 574, Value.int 239 0, Value.int 2 0, Value.int 0 0, Value.int 0 0, Value.int 3 0, Value.ref 301, Value.bool true, Value.int 181 0, Value.ref 302, Value.none, Value.ref 303, Value.ref 304, Value.ref 305, Value.int 577 0, Value.int 239 0, Value.str (Str.ofString "/claim/cut.py") 578] }),
  (307, { cls := Value.type "function", data := Data.func { name := Str.ofString "_law_name", qualname := Str.ofString "_law_name", params := tArgs (tStmt 18), body := FuncBody.stmts (tBody (tStmt 18)), scope := tScope (tStmt 18), globals := 3, closure := [], defaults := Value.none, kwdefaults := Value.none, pyModule := Value.str (Str.ofString "law_xc0037_01") 527, code := Value.ref 306 } }),
  (313, { cls := Value.type "code", data := Data.fields #[Value.str (Str.ofString "_law_rows") 580, Value.str (Str.ofString "_law_rows") 581, Value.str (Str.ofString "/claim/cut.py") 582, Value.int 243 0, Value.int 4 0, Value.int 0 0, Value.int 0 0, Value.int 3 0, Value.ref 308, Value.bool true, Value.int 181 0, Value.ref 309, Value.none, Value.ref 310, Value.ref 311, Value.ref 312, Value.int 590 0, Value.int 243 0, Value.str (Str.ofString "/claim/cut.py") 591] }),
  (314, { cls := Value.type "function", data := Data.func { name := Str.ofString "_law_rows", qualname := Str.ofString "_law_rows", params := tArgs (tStmt 19), body := FuncBody.stmts (tBody (tStmt 19)), scope := tScope (tStmt 19), globals := 3, closure := [], defaults := Value.none, kwdefaults := Value.none, pyModule := Value.str (Str.ofString "law_xc0037_01") 527, code := Value.ref 313 } }),
  (318, { cls := Value.type "code", data := Data.fields #[Value.str (Str.ofString "law") 593, Value.str (Str.ofString "law") 594, Value.str (Str.ofString "/claim/cut.py") 595, Value.int 253 0, Value.int 1 0, Value.int 0 0, Value.int 0 0, Value.int 3 0, Value.ref 315, Value.bool true, Value.int 181 0, Value.ref 316, Value.none, Value.none, Value.none, Value.ref 317, Value.int 596 0, Value.int 253 0, Value.str (Str.ofString "/claim/cut.py") 597] }),
  (319, { cls := Value.type "function", data := Data.func { name := Str.ofString "law", qualname := Str.ofString "law", params := tArgs (tStmt 20), body := FuncBody.stmts (tBody (tStmt 20)), scope := tScope (tStmt 20), globals := 3, closure := [], defaults := Value.none, kwdefaults := Value.none, pyModule := Value.str (Str.ofString "law_xc0037_01") 527, code := Value.ref 318 } })]
noncomputable def qv : Program := view pg [0, 2, 3, 4, 5, 7, 9, 10, 11, 13, 14, 15, 16, 17, 18, 19, 20]
abbrev lz : List Str := [Str.ofString "_Accumulator", Str.ofString "Whitespace"]
noncomputable def dLaw : DefRec × List (Str × PySem.Expr) := (defOf qv (Str.ofString "law")).getD (⟨"", ⟨[], [], none, [], [], none, []⟩, [], ⟨.function, [], false, false, []⟩, default⟩, [])
noncomputable abbrev hkT : Hook := kHook kTop kAddrs (fun _ => by kernel_rfl)
noncomputable abbrev rwR : RowW := PySem.Challenge.rw_xc0037_01.row.toRowW
noncomputable abbrev xtT : Shared → Bool := fun s => xlAt qv [] s && recOk (RowW.records rwR) s
noncomputable def hxE : Obj := { cls := Value.type "tuple", data := Data.seq #[] }
noncomputable def hxF : Obj := { cls := Value.none, data := Data.fields #[] }
noncomputable def hxOthers (P : Params) : List Obj := [boot_o_0 P,
  boot_o_7 P,
  boot_o_8 P,
  boot_o_9 P,
  boot_o_10 P,
  hxE,
  { cls := Value.none, data := Data.fields #[Value.int 1 0, Value.int 0 0, Value.ref 20, Value.int 7 0, Value.int 0 0, Value.ref 27, Value.int 73 0, Value.int 0 0, Value.ref 105, Value.int 110 0, Value.int 0 0, Value.ref 188, Value.int 159 0, Value.int 0 0, Value.ref 254, Value.int 161 0, Value.int 0 0, Value.ref 261, Value.int 180 0, Value.int 0 0, Value.ref 268, Value.int 198 0, Value.int 0 0, Value.ref 275, Value.int 203 0, Value.int 0 0, Value.ref 282, Value.int 207 0, Value.int 0 0, Value.ref 287, Value.int 219 0, Value.int 0 0, Value.ref 294, Value.int 233 0, Value.int 0 0, Value.ref 299, Value.int 239 0, Value.int 0 0, Value.ref 306, Value.int 243 0, Value.int 0 0, Value.ref 313, Value.int 253 0, Value.int 0 0, Value.ref 318] },
  { cls := Value.type "code", data := Data.fields #[Value.str (Str.ofString "<module>") 182, Value.str (Str.ofString "<module>") 183, Value.str (Str.ofString "/claim/cut.py") 184, Value.int 1 0, Value.int 0 0, Value.int 0 0, Value.int 0 0, Value.int 0 0, Value.ref 11, Value.bool false, Value.int 181 0, Value.ref 12, Value.none, Value.none, Value.none, Value.none, Value.int 185 0, Value.int 1 0, Value.str (Str.ofString "/claim/cut.py") 186] },
  { cls := Value.type "frame", slots := #[some (Value.ref 13), some (Value.ref 3), some (Value.ref 3), none, some (Value.str (Str.ofString "__main__") 164), none, some (Value.ref 0)] },
  hxE,
  hxF,
  { cls := Value.type "tuple", data := Data.seq #[Value.str (Str.ofString "k") 190] },
  hxE,
  { cls := Value.none, data := Data.func { name := Str.ofString "_wall", qualname := Str.ofString "_wall", params := tArgs (tStmt 0), body := FuncBody.stmts (tBody (tStmt 0)), scope := tScope (tStmt 0), globals := 0, closure := [], defaults := Value.none, kwdefaults := Value.none } },
  { cls := Value.type "code", data := Data.fields #[Value.str (Str.ofString "_wall") 187, Value.str (Str.ofString "_wall") 188, Value.str (Str.ofString "/claim/cut.py") 189, Value.int 1 0, Value.int 1 0, Value.int 0 0, Value.int 0 0, Value.int 3 0, Value.ref 15, Value.bool true, Value.int 181 0, Value.ref 16, Value.none, Value.ref 17, Value.ref 18, Value.ref 19, Value.int 191 0, Value.int 1 0, Value.str (Str.ofString "/claim/cut.py") 192] },
  { cls := Value.type "function", data := Data.func { name := Str.ofString "_wall", qualname := Str.ofString "_wall", params := tArgs (tStmt 0), body := FuncBody.stmts (tBody (tStmt 0)), scope := tScope (tStmt 0), globals := 3, closure := [], defaults := Value.none, kwdefaults := Value.none, pyModule := Value.str (Str.ofString "__main__") 164, code := Value.ref 20 } },
  hxE,
  { cls := Value.type "builtin_function_or_method", data := Data.fields #[Value.builtin "type.__prepare__", Value.type "type"] },
  { cls := Value.type "dict", data := Data.dict #[{ hash := PyData.keyHash P (Str.ofString "__module__"), key := Value.str (Str.ofString "__module__") 207, val := Value.str (Str.ofString "cpy313.email.header") 194 }, { hash := PyData.keyHash P (Str.ofString "__qualname__"), key := Value.str (Str.ofString "__qualname__") 209, val := Value.str (Str.ofString "_ValueFormatter") 208 }, { hash := PyData.keyHash P (Str.ofString "__firstlineno__"), key := Value.str (Str.ofString "__firstlineno__") 211, val := Value.int 7 210 }, { hash := PyData.keyHash P (Str.ofString "__init__"), key := Value.str (Str.ofString "__init__") 222, val := Value.ref 35 }, { hash := PyData.keyHash P (Str.ofString "_str"), key := Value.str (Str.ofString "_str") 230, val := Value.ref 42 }, { hash := PyData.keyHash P (Str.ofString "__str__"), key := Value.str (Str.ofString "__str__") 237, val := Value.ref 49 }, { hash := PyData.keyHash P (Str.ofString "newline"), key := Value.str (Str.ofString "newline") 245, val := Value.ref 56 }, { hash := PyData.keyHash P (Str.ofString "add_transition"), key := Value.str (Str.ofString "add_transition") 252, val := Value.ref 63 }, { hash := PyData.keyHash P (Str.ofString "feed"), key := Value.str (Str.ofString "feed") 262, val := Value.ref 70 }, { hash := PyData.keyHash P (Str.ofString "_maxlengths"), key := Value.str (Str.ofString "_maxlengths") 269, val := Value.ref 77 }, { hash := PyData.keyHash P (Str.ofString "_ascii_split"), key := Value.str (Str.ofString "_ascii_split") 279, val := Value.ref 84 }, { hash := PyData.keyHash P (Str.ofString "_append_chunk"), key := Value.str (Str.ofString "_append_chunk") 293, val := Value.ref 91 }, { hash := PyData.keyHash P (Str.ofString "__static_attributes__"), key := Value.str (Str.ofString "__static_attributes__") 300, val := Value.ref 92 }] 13 },
  hxE,
  { cls := Value.none, data := Data.fields #[Value.int 9 0, Value.int 4 0, Value.ref 34, Value.int 17 0, Value.int 4 0, Value.ref 41, Value.int 21 0, Value.int 4 0, Value.ref 48, Value.int 24 0, Value.int 4 0, Value.ref 55, Value.int 35 0, Value.int 4 0, Value.ref 62, Value.int 38 0, Value.int 4 0, Value.ref 69, Value.int 41 0, Value.int 4 0, Value.ref 76, Value.int 44 0, Value.int 4 0, Value.ref 83, Value.int 47 0, Value.int 4 0, Value.ref 90] },
  { cls := Value.type "code", data := Data.fields #[Value.str (Str.ofString "_ValueFormatter") 202, Value.str (Str.ofString "_ValueFormatter") 203, Value.str (Str.ofString "/claim/cut.py") 204, Value.int 7 0, Value.int 0 0, Value.int 0 0, Value.int 0 0, Value.int 0 0, Value.ref 25, Value.bool false, Value.int 181 0, Value.ref 26, Value.none, Value.none, Value.none, Value.none, Value.int 205 0, Value.int 7 0, Value.str (Str.ofString "/claim/cut.py") 206] },
  { cls := Value.type "frame", slots := #[some (Value.ref 27), some (Value.ref 3), some (Value.ref 24), none, some (Value.str (Str.ofString "cpy313.email.header") 194), none, some (Value.ref 0)] },
  hxE,
  hxF,
  { cls := Value.type "tuple", data := Data.seq #[Value.str (Str.ofString "self") 215, Value.str (Str.ofString "headerlen") 216, Value.str (Str.ofString "maxlen") 217, Value.str (Str.ofString "continuation_ws") 218, Value.str (Str.ofString "splitchars") 219] },
  hxE,
  { cls := Value.none, data := Data.func { name := Str.ofString "__init__", qualname := Str.ofString "_ValueFormatter.__init__", params := tArgs (tMeth 4 0), body := FuncBody.stmts (tBody (tMeth 4 0)), scope := tScope (tMeth 4 0), globals := 0, closure := [], defaults := Value.none, kwdefaults := Value.none } },
  hxE,
  hxF,
  { cls := Value.type "tuple", data := Data.seq #[Value.str (Str.ofString "self") 226, Value.str (Str.ofString "linesep") 227] },
  hxE,
  { cls := Value.none, data := Data.func { name := Str.ofString "_str", qualname := Str.ofString "_ValueFormatter._str", params := tArgs (tMeth 4 1), body := FuncBody.stmts (tBody (tMeth 4 1)), scope := tScope (tMeth 4 1), globals := 0, closure := [], defaults := Value.none, kwdefaults := Value.none } },
  hxE,
  hxF,
  { cls := Value.type "tuple", data := Data.seq #[Value.str (Str.ofString "self") 234] },
  hxE,
  { cls := Value.none, data := Data.func { name := Str.ofString "__str__", qualname := Str.ofString "_ValueFormatter.__str__", params := tArgs (tMeth 4 2), body := FuncBody.stmts (tBody (tMeth 4 2)), scope := tScope (tMeth 4 2), globals := 0, closure := [], defaults := Value.none, kwdefaults := Value.none } },
  { cls := Value.type "code", data := Data.fields #[Value.str (Str.ofString "__str__") 231, Value.str (Str.ofString "_ValueFormatter.__str__") 232, Value.str (Str.ofString "/claim/cut.py") 233, Value.int 21 0, Value.int 1 0, Value.int 0 0, Value.int 0 0, Value.int 3 0, Value.ref 43, Value.bool true, Value.int 181 0, Value.ref 44, Value.none, Value.ref 45, Value.ref 46, Value.ref 47, Value.int 235 0, Value.int 21 0, Value.str (Str.ofString "/claim/cut.py") 236] },
  { cls := Value.type "function", data := Data.func { name := Str.ofString "__str__", qualname := Str.ofString "_ValueFormatter.__str__", params := tArgs (tMeth 4 2), body := FuncBody.stmts (tBody (tMeth 4 2)), scope := tScope (tMeth 4 2), globals := 3, closure := [], defaults := Value.none, kwdefaults := Value.none, pyModule := Value.str (Str.ofString "cpy313.email.header") 194, code := Value.ref 48 } },
  hxE,
  hxF,
  { cls := Value.type "tuple", data := Data.seq #[Value.str (Str.ofString "self") 241, Value.str (Str.ofString "end_of_line") 242] },
  hxE,
  { cls := Value.none, data := Data.func { name := Str.ofString "newline", qualname := Str.ofString "_ValueFormatter.newline", params := tArgs (tMeth 4 3), body := FuncBody.stmts (tBody (tMeth 4 3)), scope := tScope (tMeth 4 3), globals := 0, closure := [], defaults := Value.none, kwdefaults := Value.none } },
  hxE,
  hxF,
  { cls := Value.type "tuple", data := Data.seq #[Value.str (Str.ofString "self") 249] },
  hxE,
  { cls := Value.none, data := Data.func { name := Str.ofString "add_transition", qualname := Str.ofString "_ValueFormatter.add_transition", params := tArgs (tMeth 4 4), body := FuncBody.stmts (tBody (tMeth 4 4)), scope := tScope (tMeth 4 4), globals := 0, closure := [], defaults := Value.none, kwdefaults := Value.none } },
  { cls := Value.type "code", data := Data.fields #[Value.str (Str.ofString "add_transition") 246, Value.str (Str.ofString "_ValueFormatter.add_transition") 247, Value.str (Str.ofString "/claim/cut.py") 248, Value.int 35 0, Value.int 1 0, Value.int 0 0, Value.int 0 0, Value.int 3 0, Value.ref 57, Value.bool true, Value.int 181 0, Value.ref 58, Value.none, Value.ref 59, Value.ref 60, Value.ref 61, Value.int 250 0, Value.int 35 0, Value.str (Str.ofString "/claim/cut.py") 251] },
  { cls := Value.type "function", data := Data.func { name := Str.ofString "add_transition", qualname := Str.ofString "_ValueFormatter.add_transition", params := tArgs (tMeth 4 4), body := FuncBody.stmts (tBody (tMeth 4 4)), scope := tScope (tMeth 4 4), globals := 3, closure := [], defaults := Value.none, kwdefaults := Value.none, pyModule := Value.str (Str.ofString "cpy313.email.header") 194, code := Value.ref 62 } },
  hxE,
  hxF,
  { cls := Value.type "tuple", data := Data.seq #[Value.str (Str.ofString "self") 256, Value.str (Str.ofString "fws") 257, Value.str (Str.ofString "string") 258, Value.str (Str.ofString "charset") 259] },
  hxE,
  { cls := Value.none, data := Data.func { name := Str.ofString "feed", qualname := Str.ofString "_ValueFormatter.feed", params := tArgs (tMeth 4 5), body := FuncBody.stmts (tBody (tMeth 4 5)), scope := tScope (tMeth 4 5), globals := 0, closure := [], defaults := Value.none, kwdefaults := Value.none } },
  { cls := Value.type "code", data := Data.fields #[Value.str (Str.ofString "feed") 253, Value.str (Str.ofString "_ValueFormatter.feed") 254, Value.str (Str.ofString "/claim/cut.py") 255, Value.int 38 0, Value.int 4 0, Value.int 0 0, Value.int 0 0, Value.int 3 0, Value.ref 64, Value.bool true, Value.int 181 0, Value.ref 65, Value.none, Value.ref 66, Value.ref 67, Value.ref 68, Value.int 260 0, Value.int 38 0, Value.str (Str.ofString "/claim/cut.py") 261] },
  { cls := Value.type "function", data := Data.func { name := Str.ofString "feed", qualname := Str.ofString "_ValueFormatter.feed", params := tArgs (tMeth 4 5), body := FuncBody.stmts (tBody (tMeth 4 5)), scope := tScope (tMeth 4 5), globals := 3, closure := [], defaults := Value.none, kwdefaults := Value.none, pyModule := Value.str (Str.ofString "cpy313.email.header") 194, code := Value.ref 69 } },
  hxE,
  hxF,
  { cls := Value.type "tuple", data := Data.seq #[Value.str (Str.ofString "self") 266] },
  hxE,
  { cls := Value.none, data := Data.func { name := Str.ofString "_maxlengths", qualname := Str.ofString "_ValueFormatter._maxlengths", params := tArgs (tMeth 4 6), body := FuncBody.stmts (tBody (tMeth 4 6)), scope := tScope (tMeth 4 6), globals := 0, closure := [], defaults := Value.none, kwdefaults := Value.none } },
  { cls := Value.type "code", data := Data.fields #[Value.str (Str.ofString "_maxlengths") 263, Value.str (Str.ofString "_ValueFormatter._maxlengths") 264, Value.str (Str.ofString "/claim/cut.py") 265, Value.int 41 0, Value.int 1 0, Value.int 0 0, Value.int 0 0, Value.int 3 0, Value.ref 71, Value.bool true, Value.int 181 0, Value.ref 72, Value.none, Value.ref 73, Value.ref 74, Value.ref 75, Value.int 267 0, Value.int 41 0, Value.str (Str.ofString "/claim/cut.py") 268] },
  { cls := Value.type "function", data := Data.func { name := Str.ofString "_maxlengths", qualname := Str.ofString "_ValueFormatter._maxlengths", params := tArgs (tMeth 4 6), body := FuncBody.stmts (tBody (tMeth 4 6)), scope := tScope (tMeth 4 6), globals := 3, closure := [], defaults := Value.none, kwdefaults := Value.none, pyModule := Value.str (Str.ofString "cpy313.email.header") 194, code := Value.ref 76 } },
  hxE,
  hxF,
  { cls := Value.type "tuple", data := Data.seq #[Value.str (Str.ofString "self") 273, Value.str (Str.ofString "fws") 274, Value.str (Str.ofString "string") 275, Value.str (Str.ofString "splitchars") 276] },
  hxE,
  { cls := Value.none, data := Data.func { name := Str.ofString "_ascii_split", qualname := Str.ofString "_ValueFormatter._ascii_split", params := tArgs (tMeth 4 7), body := FuncBody.stmts (tBody (tMeth 4 7)), scope := tScope (tMeth 4 7), globals := 0, closure := [], defaults := Value.none, kwdefaults := Value.none } },
  { cls := Value.type "code", data := Data.fields #[Value.str (Str.ofString "_ascii_split") 270, Value.str (Str.ofString "_ValueFormatter._ascii_split") 271, Value.str (Str.ofString "/claim/cut.py") 272, Value.int 44 0, Value.int 4 0, Value.int 0 0, Value.int 0 0, Value.int 3 0, Value.ref 78, Value.bool true, Value.int 181 0, Value.ref 79, Value.none, Value.ref 80, Value.ref 81, Value.ref 82, Value.int 277 0, Value.int 44 0, Value.str (Str.ofString "/claim/cut.py") 278] },
  { cls := Value.type "function", data := Data.func { name := Str.ofString "_ascii_split", qualname := Str.ofString "_ValueFormatter._ascii_split", params := tArgs (tMeth 4 7), body := FuncBody.stmts (tBody (tMeth 4 7)), scope := tScope (tMeth 4 7), globals := 3, closure := [], defaults := Value.none, kwdefaults := Value.none, pyModule := Value.str (Str.ofString "cpy313.email.header") 194, code := Value.ref 83 } },
  hxE,
  hxF,
  { cls := Value.type "tuple", data := Data.seq #[Value.str (Str.ofString "self") 283, Value.str (Str.ofString "fws") 284, Value.str (Str.ofString "string") 285, Value.str (Str.ofString "ch") 286, Value.str (Str.ofString "i") 287, Value.str (Str.ofString "prevpart") 288, Value.str (Str.ofString "part") 289, Value.str (Str.ofString "remainder") 290] },
  hxE,
  { cls := Value.none, data := Data.func { name := Str.ofString "_append_chunk", qualname := Str.ofString "_ValueFormatter._append_chunk", params := tArgs (tMeth 4 8), body := FuncBody.stmts (tBody (tMeth 4 8)), scope := tScope (tMeth 4 8), globals := 0, closure := [], defaults := Value.none, kwdefaults := Value.none } },
  { cls := Value.type "tuple", data := Data.seq #[Value.str (Str.ofString "_continuation_ws") 294, Value.str (Str.ofString "_continuation_ws_len") 295, Value.str (Str.ofString "_current_line") 296, Value.str (Str.ofString "_lines") 297, Value.str (Str.ofString "_maxlen") 298, Value.str (Str.ofString "_splitchars") 299] },
  { cls := Value.type "super", data := Data.fields #[Value.ref 94, Value.ref 94, Value.ref 94] },
  { cls := Value.type "builtin_function_or_method", data := Data.fields #[Value.builtin "object.__init_subclass__", Value.ref 94] },
  { cls := Value.type "tuple", data := Data.seq #[Value.type "list"] },
  { cls := Value.type "builtin_function_or_method", data := Data.fields #[Value.builtin "type.__prepare__", Value.type "type"] },
  { cls := Value.type "dict", data := Data.dict #[{ hash := PyData.keyHash P (Str.ofString "__module__"), key := Value.str (Str.ofString "__module__") 315, val := Value.str (Str.ofString "cpy313.email.header") 194 }, { hash := PyData.keyHash P (Str.ofString "__qualname__"), key := Value.str (Str.ofString "__qualname__") 317, val := Value.str (Str.ofString "_Accumulator") 316 }, { hash := PyData.keyHash P (Str.ofString "__firstlineno__"), key := Value.str (Str.ofString "__firstlineno__") 319, val := Value.int 73 318 }, { hash := PyData.keyHash P (Str.ofString "__init__"), key := Value.str (Str.ofString "__init__") 329, val := Value.ref 115 }, { hash := PyData.keyHash P (Str.ofString "push"), key := Value.str (Str.ofString "push") 338, val := Value.ref 122 }, { hash := PyData.keyHash P (Str.ofString "pop_from"), key := Value.str (Str.ofString "pop_from") 348, val := Value.ref 130 }, { hash := PyData.keyHash P (Str.ofString "pop"), key := Value.str (Str.ofString "pop") 356, val := Value.ref 138 }, { hash := PyData.keyHash P (Str.ofString "__len__"), key := Value.str (Str.ofString "__len__") 363, val := Value.ref 145 }, { hash := PyData.keyHash P (Str.ofString "__str__"), key := Value.str (Str.ofString "__str__") 370, val := Value.ref 152 }, { hash := PyData.keyHash P (Str.ofString "reset"), key := Value.str (Str.ofString "reset") 378, val := Value.ref 160 }, { hash := PyData.keyHash P (Str.ofString "is_onlyws"), key := Value.str (Str.ofString "is_onlyws") 385, val := Value.ref 167 }, { hash := PyData.keyHash P (Str.ofString "part_count"), key := Value.str (Str.ofString "part_count") 393, val := Value.ref 175 }, { hash := PyData.keyHash P (Str.ofString "__static_attributes__"), key := Value.str (Str.ofString "__static_attributes__") 395, val := Value.ref 176 }, { hash := PyData.keyHash P (Str.ofString "__classcell__"), key := Value.str (Str.ofString "__classcell__") 396, val := Value.ref 102 }] 14 },
  hxE,
  { cls := Value.none, data := Data.fields #[Value.int 75 0, Value.int 4 0, Value.ref 114, Value.int 79 0, Value.int 4 0, Value.ref 121, Value.int 82 0, Value.int 4 0, Value.ref 129, Value.int 87 0, Value.int 4 0, Value.ref 137, Value.int 92 0, Value.int 4 0, Value.ref 144, Value.int 95 0, Value.int 4 0, Value.ref 151, Value.int 98 0, Value.int 4 0, Value.ref 159, Value.int 104 0, Value.int 4 0, Value.ref 166, Value.int 107 0, Value.int 4 0, Value.ref 174] },
  { cls := Value.type "code", data := Data.fields #[Value.str (Str.ofString "_Accumulator") 310, Value.str (Str.ofString "_Accumulator") 311, Value.str (Str.ofString "/claim/cut.py") 312, Value.int 73 0, Value.int 0 0, Value.int 0 0, Value.int 0 0, Value.int 0 0, Value.ref 103, Value.bool false, Value.int 181 0, Value.ref 104, Value.none, Value.none, Value.none, Value.none, Value.int 313 0, Value.int 73 0, Value.str (Str.ofString "/claim/cut.py") 314] },
  { cls := Value.type "frame", slots := #[some (Value.ref 105), some (Value.ref 3), some (Value.ref 101), none, some (Value.str (Str.ofString "cpy313.email.header") 194), none, some (Value.ref 0)] },
  { cls := Value.type "tuple", data := Data.seq #[Value.ref 102] },
  { cls := Value.type "tuple", data := Data.seq #[Value.str (Str.ofString "__class__") 324] },
  hxF,
  { cls := Value.type "tuple", data := Data.seq #[Value.str (Str.ofString "self") 325, Value.str (Str.ofString "initial_size") 326] },
  hxE,
  { cls := Value.none, data := Data.func { name := Str.ofString "__init__", qualname := Str.ofString "_Accumulator.__init__", params := tArgs (tMeth 5 0), body := FuncBody.stmts (tBody (tMeth 5 0)), scope := tScope (tMeth 5 0), globals := 0, closure := [], defaults := Value.none, kwdefaults := Value.none } },
  hxE,
  hxF,
  { cls := Value.type "tuple", data := Data.seq #[Value.str (Str.ofString "self") 333, Value.str (Str.ofString "fws") 334, Value.str (Str.ofString "string") 335] },
  hxE,
  { cls := Value.none, data := Data.func { name := Str.ofString "push", qualname := Str.ofString "_Accumulator.push", params := tArgs (tMeth 5 1), body := FuncBody.stmts (tBody (tMeth 5 1)), scope := tScope (tMeth 5 1), globals := 0, closure := [], defaults := Value.none, kwdefaults := Value.none } },
  hxE,
  hxF,
  { cls := Value.type "tuple", data := Data.seq #[Value.str (Str.ofString "self") 343, Value.str (Str.ofString "i") 344, Value.str (Str.ofString "popped") 345] },
  hxE,
  { cls := Value.none, data := Data.func { name := Str.ofString "pop_from", qualname := Str.ofString "_Accumulator.pop_from", params := tArgs (tMeth 5 2), body := FuncBody.stmts (tBody (tMeth 5 2)), scope := tScope (tMeth 5 2), globals := 0, closure := [], defaults := Value.none, kwdefaults := Value.none } },
  { cls := Value.type "tuple", data := Data.seq #[Value.ref 102] },
  { cls := Value.type "tuple", data := Data.seq #[Value.str (Str.ofString "__class__") 352] },
  hxF,
  { cls := Value.type "tuple", data := Data.seq #[Value.str (Str.ofString "self") 353] },
  hxE,
  { cls := Value.none, data := Data.func { name := Str.ofString "pop", qualname := Str.ofString "_Accumulator.pop", params := tArgs (tMeth 5 3), body := FuncBody.stmts (tBody (tMeth 5 3)), scope := tScope (tMeth 5 3), globals := 0, closure := [], defaults := Value.none, kwdefaults := Value.none } },
  hxE,
  { cls := Value.type "tuple", data := Data.seq #[Value.str (Str.ofString "self") 360] },
  hxE,
  { cls := Value.none, data := Data.func { name := Str.ofString "__len__", qualname := Str.ofString "_Accumulator.__len__", params := tArgs (tMeth 5 4), body := FuncBody.stmts (tBody (tMeth 5 4)), scope := tScope (tMeth 5 4), globals := 0, closure := [], defaults := Value.none, kwdefaults := Value.none } },
  hxE,
  { cls := Value.type "tuple", data := Data.seq #[Value.str (Str.ofString "self") 367] },
  hxE,
  { cls := Value.none, data := Data.func { name := Str.ofString "__str__", qualname := Str.ofString "_Accumulator.__str__", params := tArgs (tMeth 5 5), body := FuncBody.stmts (tBody (tMeth 5 5)), scope := tScope (tMeth 5 5), globals := 0, closure := [], defaults := Value.none, kwdefaults := Value.none } },
  hxE,
  hxF,
  { cls := Value.type "tuple", data := Data.seq #[Value.str (Str.ofString "self") 374, Value.str (Str.ofString "startval") 375] },
  hxE,
  { cls := Value.none, data := Data.func { name := Str.ofString "reset", qualname := Str.ofString "_Accumulator.reset", params := tArgs (tMeth 5 6), body := FuncBody.stmts (tBody (tMeth 5 6)), scope := tScope (tMeth 5 6), globals := 0, closure := [], defaults := Value.none, kwdefaults := Value.none } },
  hxE,
  hxF,
  { cls := Value.type "tuple", data := Data.seq #[Value.str (Str.ofString "self") 382] },
  hxE,
  { cls := Value.none, data := Data.func { name := Str.ofString "is_onlyws", qualname := Str.ofString "_Accumulator.is_onlyws", params := tArgs (tMeth 5 7), body := FuncBody.stmts (tBody (tMeth 5 7)), scope := tScope (tMeth 5 7), globals := 0, closure := [], defaults := Value.none, kwdefaults := Value.none } },
  { cls := Value.type "tuple", data := Data.seq #[Value.ref 102] },
  { cls := Value.type "tuple", data := Data.seq #[Value.str (Str.ofString "__class__") 389] },
  hxF,
  { cls := Value.type "tuple", data := Data.seq #[Value.str (Str.ofString "self") 390] },
  hxE,
  { cls := Value.none, data := Data.func { name := Str.ofString "part_count", qualname := Str.ofString "_Accumulator.part_count", params := tArgs (tMeth 5 8), body := FuncBody.stmts (tBody (tMeth 5 8)), scope := tScope (tMeth 5 8), globals := 0, closure := [], defaults := Value.none, kwdefaults := Value.none } },
  { cls := Value.type "tuple", data := Data.seq #[Value.str (Str.ofString "_initial_size") 394] },
  { cls := Value.type "super", data := Data.fields #[Value.ref 178, Value.ref 178, Value.ref 178] },
  { cls := Value.type "builtin_function_or_method", data := Data.fields #[Value.builtin "object.__init_subclass__", Value.ref 178] },
  hxE,
  { cls := Value.type "builtin_function_or_method", data := Data.fields #[Value.builtin "type.__prepare__", Value.type "type"] },
  { cls := Value.type "dict", data := Data.dict #[{ hash := PyData.keyHash P (Str.ofString "__module__"), key := Value.str (Str.ofString "__module__") 413, val := Value.str (Str.ofString "cpy313.tabnanny") 404 }, { hash := PyData.keyHash P (Str.ofString "__qualname__"), key := Value.str (Str.ofString "__qualname__") 415, val := Value.str (Str.ofString "Whitespace") 414 }, { hash := PyData.keyHash P (Str.ofString "__firstlineno__"), key := Value.str (Str.ofString "__firstlineno__") 417, val := Value.int 110 416 }, { hash := PyData.keyHash P (Str.ofString "S"), key := Value.str (Str.ofString "S") 421, val := Value.str (Str.ofString " ") 419 }, { hash := PyData.keyHash P (Str.ofString "T"), key := Value.str (Str.ofString "T") 422, val := Value.str (Str.ofString "\t") 420 }, { hash := PyData.keyHash P (Str.ofString "__init__"), key := Value.str (Str.ofString "__init__") 437, val := Value.ref 199 }, { hash := PyData.keyHash P (Str.ofString "longest_run_of_spaces"), key := Value.str (Str.ofString "longest_run_of_spaces") 446, val := Value.ref 206 }, { hash := PyData.keyHash P (Str.ofString "indent_level"), key := Value.str (Str.ofString "indent_level") 458, val := Value.ref 213 }, { hash := PyData.keyHash P (Str.ofString "equal"), key := Value.str (Str.ofString "equal") 466, val := Value.ref 220 }, { hash := PyData.keyHash P (Str.ofString "not_equal_witness"), key := Value.str (Str.ofString "not_equal_witness") 474, val := Value.ref 227 }, { hash := PyData.keyHash P (Str.ofString "less"), key := Value.str (Str.ofString "less") 482, val := Value.ref 234 }, { hash := PyData.keyHash P (Str.ofString "not_less_witness"), key := Value.str (Str.ofString "not_less_witness") 490, val := Value.ref 241 }, { hash := PyData.keyHash P (Str.ofString "__static_attributes__"), key := Value.str (Str.ofString "__static_attributes__") 496, val := Value.ref 242 }] 13 },
  hxE,
  { cls := Value.none, data := Data.fields #[Value.int 113 0, Value.int 4 0, Value.ref 198, Value.int 136 0, Value.int 4 0, Value.ref 205, Value.int 140 0, Value.int 4 0, Value.ref 212, Value.int 147 0, Value.int 4 0, Value.ref 219, Value.int 150 0, Value.int 4 0, Value.ref 226, Value.int 153 0, Value.int 4 0, Value.ref 233, Value.int 156 0, Value.int 4 0, Value.ref 240] },
  { cls := Value.type "code", data := Data.fields #[Value.str (Str.ofString "Whitespace") 408, Value.str (Str.ofString "Whitespace") 409, Value.str (Str.ofString "/claim/cut.py") 410, Value.int 110 0, Value.int 0 0, Value.int 0 0, Value.int 0 0, Value.int 0 0, Value.ref 186, Value.bool false, Value.int 181 0, Value.ref 187, Value.none, Value.none, Value.none, Value.none, Value.int 411 0, Value.int 110 0, Value.str (Str.ofString "/claim/cut.py") 412] },
  { cls := Value.type "frame", slots := #[some (Value.ref 188), some (Value.ref 3), some (Value.ref 185), none, some (Value.str (Str.ofString "cpy313.tabnanny") 404), none, some (Value.ref 0)] },
  { cls := Value.type "str_ascii_iterator", data := Data.fields #[Value.none, Value.int 2 0] },
  hxE,
  { cls := Value.type "StopIteration", data := Data.fields #[Value.ref 191, Value.none, Value.none, Value.none, Value.bool false, Value.none] },
  hxE,
  hxF,
  { cls := Value.type "tuple", data := Data.seq #[Value.str (Str.ofString "self") 426, Value.str (Str.ofString "ws") 427, Value.str (Str.ofString "S") 428, Value.str (Str.ofString "T") 429, Value.str (Str.ofString "count") 430, Value.str (Str.ofString "b") 431, Value.str (Str.ofString "n") 432, Value.str (Str.ofString "nt") 433, Value.str (Str.ofString "ch") 434] },
  hxE,
  { cls := Value.none, data := Data.func { name := Str.ofString "__init__", qualname := Str.ofString "Whitespace.__init__", params := tArgs (tMeth 7 1), body := FuncBody.stmts (tBody (tMeth 7 1)), scope := tScope (tMeth 7 1), globals := 0, closure := [], defaults := Value.none, kwdefaults := Value.none } },
  hxE,
  hxF,
  { cls := Value.type "tuple", data := Data.seq #[Value.str (Str.ofString "self") 441, Value.str (Str.ofString "count") 442, Value.str (Str.ofString "trailing") 443] },
  hxE,
  { cls := Value.none, data := Data.func { name := Str.ofString "longest_run_of_spaces", qualname := Str.ofString "Whitespace.longest_run_of_spaces", params := tArgs (tMeth 7 2), body := FuncBody.stmts (tBody (tMeth 7 2)), scope := tScope (tMeth 7 2), globals := 0, closure := [], defaults := Value.none, kwdefaults := Value.none } },
  hxE,
  hxF,
  { cls := Value.type "tuple", data := Data.seq #[Value.str (Str.ofString "self") 450, Value.str (Str.ofString "tabsize") 451, Value.str (Str.ofString "count") 452, Value.str (Str.ofString "trailing") 453, Value.str (Str.ofString "il") 454, Value.str (Str.ofString "i") 455] },
  hxE,
  { cls := Value.none, data := Data.func { name := Str.ofString "indent_level", qualname := Str.ofString "Whitespace.indent_level", params := tArgs (tMeth 7 3), body := FuncBody.stmts (tBody (tMeth 7 3)), scope := tScope (tMeth 7 3), globals := 0, closure := [], defaults := Value.none, kwdefaults := Value.none } },
  hxE,
  hxF,
  { cls := Value.type "tuple", data := Data.seq #[Value.str (Str.ofString "self") 462, Value.str (Str.ofString "other") 463] },
  hxE,
  { cls := Value.none, data := Data.func { name := Str.ofString "equal", qualname := Str.ofString "Whitespace.equal", params := tArgs (tMeth 7 4), body := FuncBody.stmts (tBody (tMeth 7 4)), scope := tScope (tMeth 7 4), globals := 0, closure := [], defaults := Value.none, kwdefaults := Value.none } },
  hxE,
  hxF,
  { cls := Value.type "tuple", data := Data.seq #[Value.str (Str.ofString "self") 470, Value.str (Str.ofString "other") 471] },
  hxE,
  { cls := Value.none, data := Data.func { name := Str.ofString "not_equal_witness", qualname := Str.ofString "Whitespace.not_equal_witness", params := tArgs (tMeth 7 5), body := FuncBody.stmts (tBody (tMeth 7 5)), scope := tScope (tMeth 7 5), globals := 0, closure := [], defaults := Value.none, kwdefaults := Value.none } },
  { cls := Value.type "code", data := Data.fields #[Value.str (Str.ofString "not_equal_witness") 467, Value.str (Str.ofString "Whitespace.not_equal_witness") 468, Value.str (Str.ofString "/claim/cut.py") 469, Value.int 150 0, Value.int 2 0, Value.int 0 0, Value.int 0 0, Value.int 3 0, Value.ref 221, Value.bool true, Value.int 181 0, Value.ref 222, Value.none, Value.ref 223, Value.ref 224, Value.ref 225, Value.int 472 0, Value.int 150 0, Value.str (Str.ofString "/claim/cut.py") 473] },
  { cls := Value.type "function", data := Data.func { name := Str.ofString "not_equal_witness", qualname := Str.ofString "Whitespace.not_equal_witness", params := tArgs (tMeth 7 5), body := FuncBody.stmts (tBody (tMeth 7 5)), scope := tScope (tMeth 7 5), globals := 3, closure := [], defaults := Value.none, kwdefaults := Value.none, pyModule := Value.str (Str.ofString "cpy313.tabnanny") 404, code := Value.ref 226 } },
  hxE,
  hxF,
  { cls := Value.type "tuple", data := Data.seq #[Value.str (Str.ofString "self") 478, Value.str (Str.ofString "other") 479] },
  hxE,
  { cls := Value.none, data := Data.func { name := Str.ofString "less", qualname := Str.ofString "Whitespace.less", params := tArgs (tMeth 7 6), body := FuncBody.stmts (tBody (tMeth 7 6)), scope := tScope (tMeth 7 6), globals := 0, closure := [], defaults := Value.none, kwdefaults := Value.none } },
  { cls := Value.type "code", data := Data.fields #[Value.str (Str.ofString "less") 475, Value.str (Str.ofString "Whitespace.less") 476, Value.str (Str.ofString "/claim/cut.py") 477, Value.int 153 0, Value.int 2 0, Value.int 0 0, Value.int 0 0, Value.int 3 0, Value.ref 228, Value.bool true, Value.int 181 0, Value.ref 229, Value.none, Value.ref 230, Value.ref 231, Value.ref 232, Value.int 480 0, Value.int 153 0, Value.str (Str.ofString "/claim/cut.py") 481] },
  { cls := Value.type "function", data := Data.func { name := Str.ofString "less", qualname := Str.ofString "Whitespace.less", params := tArgs (tMeth 7 6), body := FuncBody.stmts (tBody (tMeth 7 6)), scope := tScope (tMeth 7 6), globals := 3, closure := [], defaults := Value.none, kwdefaults := Value.none, pyModule := Value.str (Str.ofString "cpy313.tabnanny") 404, code := Value.ref 233 } },
  hxE,
  hxF,
  { cls := Value.type "tuple", data := Data.seq #[Value.str (Str.ofString "self") 486, Value.str (Str.ofString "other") 487] },
  hxE,
  { cls := Value.none, data := Data.func { name := Str.ofString "not_less_witness", qualname := Str.ofString "Whitespace.not_less_witness", params := tArgs (tMeth 7 7), body := FuncBody.stmts (tBody (tMeth 7 7)), scope := tScope (tMeth 7 7), globals := 0, closure := [], defaults := Value.none, kwdefaults := Value.none } },
  { cls := Value.type "code", data := Data.fields #[Value.str (Str.ofString "not_less_witness") 483, Value.str (Str.ofString "Whitespace.not_less_witness") 484, Value.str (Str.ofString "/claim/cut.py") 485, Value.int 156 0, Value.int 2 0, Value.int 0 0, Value.int 0 0, Value.int 3 0, Value.ref 235, Value.bool true, Value.int 181 0, Value.ref 236, Value.none, Value.ref 237, Value.ref 238, Value.ref 239, Value.int 488 0, Value.int 156 0, Value.str (Str.ofString "/claim/cut.py") 489] },
  { cls := Value.type "function", data := Data.func { name := Str.ofString "not_less_witness", qualname := Str.ofString "Whitespace.not_less_witness", params := tArgs (tMeth 7 7), body := FuncBody.stmts (tBody (tMeth 7 7)), scope := tScope (tMeth 7 7), globals := 3, closure := [], defaults := Value.none, kwdefaults := Value.none, pyModule := Value.str (Str.ofString "cpy313.tabnanny") 404, code := Value.ref 240 } },
  { cls := Value.type "tuple", data := Data.seq #[Value.str (Str.ofString "is_simple") 491, Value.str (Str.ofString "n") 492, Value.str (Str.ofString "norm") 493, Value.str (Str.ofString "nt") 494, Value.str (Str.ofString "raw") 495] },
  { cls := Value.type "super", data := Data.fields #[Value.ref 244, Value.ref 244, Value.ref 244] },
  { cls := Value.type "builtin_function_or_method", data := Data.fields #[Value.builtin "object.__init_subclass__", Value.ref 244] },
  hxE,
  hxF,
  { cls := Value.type "tuple", data := Data.seq #[Value.str (Str.ofString "text") 509] },
  hxE,
  { cls := Value.none, data := Data.func { name := Str.ofString "_raise_serialization_error", qualname := Str.ofString "_raise_serialization_error", params := tArgs (tStmt 9), body := FuncBody.stmts (tBody (tStmt 9)), scope := tScope (tStmt 9), globals := 0, closure := [], defaults := Value.none, kwdefaults := Value.none } },
  { cls := Value.type "code", data := Data.fields #[Value.str (Str.ofString "_raise_serialization_error") 506, Value.str (Str.ofString "_raise_serialization_error") 507, Value.str (Str.ofString "/claim/cut.py") 508, Value.int 159 0, Value.int 1 0, Value.int 0 0, Value.int 0 0, Value.int 3 0, Value.ref 249, Value.bool true, Value.int 181 0, Value.ref 250, Value.none, Value.ref 251, Value.ref 252, Value.ref 253, Value.int 510 0, Value.int 159 0, Value.str (Str.ofString "/claim/cut.py") 511] },
  { cls := Value.type "function", data := Data.func { name := Str.ofString "_raise_serialization_error", qualname := Str.ofString "_raise_serialization_error", params := tArgs (tStmt 9), body := FuncBody.stmts (tBody (tStmt 9)), scope := tScope (tStmt 9), globals := 3, closure := [], defaults := Value.none, kwdefaults := Value.none, pyModule := Value.str (Str.ofString "cpy313.xml.etree.ElementTree") 504, code := Value.ref 254 } },
  hxE,
  hxF,
  { cls := Value.type "tuple", data := Data.seq #[Value.str (Str.ofString "text") 516] },
  hxE,
  { cls := Value.none, data := Data.func { name := Str.ofString "_escape_attrib", qualname := Str.ofString "_escape_attrib", params := tArgs (tStmt 10), body := FuncBody.stmts (tBody (tStmt 10)), scope := tScope (tStmt 10), globals := 0, closure := [], defaults := Value.none, kwdefaults := Value.none } },
  hxE,
  hxF,
  { cls := Value.type "tuple", data := Data.seq #[Value.str (Str.ofString "text") 523] },
  hxE,
  { cls := Value.none, data := Data.func { name := Str.ofString "_escape_attrib_c14n", qualname := Str.ofString "_escape_attrib_c14n", params := tArgs (tStmt 11), body := FuncBody.stmts (tBody (tStmt 11)), scope := tScope (tStmt 11), globals := 0, closure := [], defaults := Value.none, kwdefaults := Value.none } },
  hxE,
  hxF,
  { cls := Value.type "tuple", data := Data.seq #[Value.str (Str.ofString "script") 532, Value.str (Str.ofString "drawn") 533, Value.str (Str.ofString "k") 534] },
  hxE,
  { cls := Value.none, data := Data.func { name := Str.ofString "_law_drawn", qualname := Str.ofString "_law_drawn", params := tArgs (tStmt 13), body := FuncBody.stmts (tBody (tStmt 13)), scope := tScope (tStmt 13), globals := 0, closure := [], defaults := Value.none, kwdefaults := Value.none } },
  hxE,
  hxF,
  { cls := Value.type "tuple", data := Data.seq #[Value.str (Str.ofString "a") 541, Value.str (Str.ofString "b") 542] },
  hxE,
  { cls := Value.none, data := Data.func { name := Str.ofString "_law_measure", qualname := Str.ofString "_law_measure", params := tArgs (tStmt 14), body := FuncBody.stmts (tBody (tStmt 14)), scope := tScope (tStmt 14), globals := 0, closure := [], defaults := Value.none, kwdefaults := Value.none } },
  hxE,
  hxF,
  { cls := Value.none, data := Data.func { name := Str.ofString "_law_lead", qualname := Str.ofString "_law_lead", params := tArgs (tStmt 15), body := FuncBody.stmts (tBody (tStmt 15)), scope := tScope (tStmt 15), globals := 0, closure := [], defaults := Value.none, kwdefaults := Value.none } },
  hxE,
  hxF,
  { cls := Value.type "tuple", data := Data.seq #[Value.str (Str.ofString "marks") 555, Value.str (Str.ofString "first") 556, Value.str (Str.ofString "last") 557, Value.str (Str.ofString "near") 558, Value.str (Str.ofString "far") 559, Value.str (Str.ofString "gaps") 560, Value.str (Str.ofString "k") 561, Value.str (Str.ofString "turn") 562] },
  hxE,
  { cls := Value.none, data := Data.func { name := Str.ofString "_law_gaps", qualname := Str.ofString "_law_gaps", params := tArgs (tStmt 16), body := FuncBody.stmts (tBody (tStmt 16)), scope := tScope (tStmt 16), globals := 0, closure := [], defaults := Value.none, kwdefaults := Value.none } },
  hxE,
  hxF,
  { cls := Value.none, data := Data.func { name := Str.ofString "_law_counts", qualname := Str.ofString "_law_counts", params := tArgs (tStmt 17), body := FuncBody.stmts (tBody (tStmt 17)), scope := tScope (tStmt 17), globals := 0, closure := [], defaults := Value.none, kwdefaults := Value.none } },
  hxE,
  hxF,
  { cls := Value.type "tuple", data := Data.seq #[Value.str (Str.ofString "sign") 575, Value.str (Str.ofString "plain") 576] },
  hxE,
  { cls := Value.none, data := Data.func { name := Str.ofString "_law_name", qualname := Str.ofString "_law_name", params := tArgs (tStmt 18), body := FuncBody.stmts (tBody (tStmt 18)), scope := tScope (tStmt 18), globals := 0, closure := [], defaults := Value.none, kwdefaults := Value.none } },
  hxE,
  hxF,
  { cls := Value.type "tuple", data := Data.seq #[Value.str (Str.ofString "parts") 583, Value.str (Str.ofString "head") 584, Value.str (Str.ofString "width") 585, Value.str (Str.ofString "end") 586, Value.str (Str.ofString "rows") 587, Value.str (Str.ofString "part") 588, Value.str (Str.ofString "whole") 589] },
  hxE,
  { cls := Value.none, data := Data.func { name := Str.ofString "_law_rows", qualname := Str.ofString "_law_rows", params := tArgs (tStmt 19), body := FuncBody.stmts (tBody (tStmt 19)), scope := tScope (tStmt 19), globals := 0, closure := [], defaults := Value.none, kwdefaults := Value.none } },
  hxE,
  hxF,
  { cls := Value.none, data := Data.func { name := Str.ofString "law", qualname := Str.ofString "law", params := tArgs (tStmt 20), body := FuncBody.stmts (tBody (tStmt 20)), scope := tScope (tStmt 20), globals := 0, closure := [], defaults := Value.none, kwdefaults := Value.none } }]
noncomputable def hxSel : Bool → List Obj → List Obj
  | _, [] => []
  | true, x :: l => x :: hxSel false l
  | false, _ :: l => hxSel true l
noncomputable def hxTree : Nat → List Obj → BT
  | 0, _ => .nil
  | _ + 1, [] => .nil
  | n + 1, x :: l => .node x (hxTree n (hxSel true l)) (hxTree n (hxSel false l))
noncomputable def hxMg : Nat → Nat → Frag → List Obj → List Obj
  | 0, _, _, _ => []
  | _ + 1, _, [], [] => []
  | n + 1, i, [], x :: o => x :: hxMg n (i + 1) [] o
  | n + 1, i, (a, y) :: k, o => match Nat.beq a i with
    | true => y :: hxMg n (i + 1) k o
    | false => match o with
      | [] => []
      | x :: o => x :: hxMg n (i + 1) ((a, y) :: k) o
noncomputable def hxPt : Nat → Frag → List Obj → List Obj
  | _, _, [] => []
  | _, [], x :: l => x :: l
  | i, (a, y) :: k, x :: l => match Nat.beq a i with
    | true => y :: hxPt (i + 1) k l
    | false => x :: hxPt (i + 1) ((a, y) :: k) l
noncomputable def hxObjs (n : Nat) (k : Frag) (P : Params) : List Obj := hxPt 0 k (hxMg n 0 (kTop P) (hxOthers P))
noncomputable def hxSt (n t : Nat) (os : OsState) (k : Frag) (P : Params) : SharedT := ⟨hxTree 10 (hxObjs n k P), n, {}, #[], {}, t, os⟩
noncomputable def hxThree (k : Nat) (s : Str) (t : Nat) (P : Params) : Obj := match ((hxObjs 4 [] P)[3]? : Option Obj) with
  | some ⟨c, d, .dict es _, sl⟩ => ⟨c, d, .dict ({ hash := PyData.keyHash P (Str.ofString "__name__"), key := Value.str (Str.ofString "__name__") 165, val := Value.str s t } :: (es.toList.drop 1).take k).toArray (k + 1), sl⟩
  | _ => hxE
noncomputable def hxTwelve (k : Nat) (P : Params) : Obj := match ((hxObjs 13 [] P)[12]? : Option Obj) with
  | some ⟨c, d, .fields vs, sl⟩ => ⟨c, d, .fields (vs.toList.take k).toArray, sl⟩
  | _ => hxE
noncomputable def hxPre (P : Params) (os : OsState) : SharedT := hxSt 15 187 os [(3, boot_o_3 P), (12, hxTwelve 0 P)] P
noncomputable def hxS4 (P : Params) (os : OsState) : SharedT := hxSt 99 308 os [(3, hxThree 12 "cpy313.email.header" 194 P), (12, hxTwelve 6 P)] P
noncomputable def hxS6 (P : Params) (os : OsState) : SharedT := hxSt 183 406 os [(3, hxThree 13 "cpy313.tabnanny" 404 P), (12, hxTwelve 9 P)] P
noncomputable def hxS7 (P : Params) (os : OsState) : SharedT := hxSt 249 504 os [(3, hxThree 14 "cpy313.tabnanny" 404 P), (12, hxTwelve 12 P)] P
noncomputable def hxFin (P : Params) (os : OsState) : SharedT := hxSt 320 599 os [] P
section
variable {tb : String → Option Builtin} {p : Program} {w : World} {n₀ : Nat} {ann : Option Value}
theorem hxEnd {s : Shared} {c : Code} {q q' : Pos} : topRun tb p w n₀ ann 2 s ⟨doneF .next, c, q, [topFrame q']⟩ = some s := rfl
theorem hxCuts {b l1 l2 l3 l4 : List Stmt} {env : Env} {q p0 p1 p2 p3 p4 : Pos} {n0 n1 n2 n3 n4 : Nat} {s : Shared} {S0 S1 S2 S3 S4 : SharedT} (hb : b = l1 ++ (l2 ++ (l3 ++ (l4 ++ []))))
    (h0 : topGo tb p w n₀ ann n0 s (topStub p) = some (S0.abs, ⟨denote tb (.body b env), .body b env, p0, [topFrame q]⟩))
    (hB : ∀ s, segRun tb p w n₀ ann 1 1 s (blockOf b env (.body b env) p0 [topFrame q]) = some (.next, s, .body b env, p0))
    (h1 : segRunT tb p w n₀ ann 1 n1 S0 (piecesOf l1 env (.body b env) p0 [topFrame q]) = some (.next, S1, .body b env, p1))
    (h2 : segRunT tb p w n₀ ann 1 n2 S1 (piecesOf l2 env (.body b env) p1 [topFrame q]) = some (.next, S2, .body b env, p2))
    (h3 : segRunT tb p w n₀ ann 1 n3 S2 (piecesOf l3 env (.body b env) p2 [topFrame q]) = some (.next, S3, .body b env, p3))
    (h4 : segRunT tb p w n₀ ann 1 n4 S3 (piecesOf l4 env (.body b env) p3 [topFrame q]) = some (.next, S4, .body b env, p4)) :
    topRun tb p w n₀ ann (n0 + (1 + (n1 + (n2 + (n3 + (n4 + 2)))))) s (topStub p) = some S4.abs := by
  have k := piece_app (q := q) (segRun_of h1) (piece_app (segRun_of h2) (piece_app (segRun_of h3) (piece_app (segRun_of h4) (piece_nil hxEnd))))
  rw [← hb] at k
  exact go_top h0 (piece_block (hB _) k)
end
noncomputable def hxEnv : Env := { scope := pg.main.scope, locals := mainNs, globals := mainNs, cells := [], code := .ref 13, frame := some 14 }
noncomputable abbrev hxCode : Code := .body (behindTheImports pg) hxEnv
noncomputable def hxL1 : List Stmt := pg.main.body.take 5
noncomputable def hxL2 : List Stmt := (pg.main.body.drop 5).take 2
noncomputable def hxL3 : List Stmt := (pg.main.body.drop 7).take 1
noncomputable def hxL4 : List Stmt := pg.main.body.drop 8
noncomputable abbrev hxSeg (w : World) (n : Nat) (s : SharedT) (l : List Stmt) (q : Pos) := segRunT treeTable pg w 11 (some (.ref 6)) 1 n s (piecesOf l hxEnv hxCode q [topFrame ⟨0, 0, 0, 0⟩])
theorem hxOpen : ∀ w : World, (fencedOpening treeTable pg w 3920).map (fun s => (s.heap, s.gens, s.drawn, s.toks)) = some (boot_heap w.params, Array.mk [], boot_drawn, boot_toks) :=
  boot_open (by kernel_rfl) rfl (fun _ => by kernel_rfl)
theorem hxC0 : ∀ (w : World) (os : OsState), topGo treeTable pg w 11 (some (.ref 6)) 12 ⟨boot_heap w.params, Array.mk [], boot_drawn, boot_toks, os⟩ (topStub pg) = some ((hxPre w.params os).abs, ⟨denote treeTable hxCode, hxCode, ⟨0, 0, 0, 0⟩, [topFrame ⟨0, 0, 0, 0⟩]⟩) := fun w os => by kernel_rfl
theorem hxB : ∀ (w : World) (s : Shared), segRun treeTable pg w 11 (some (.ref 6)) 1 1 s (blockOf (behindTheImports pg) hxEnv hxCode ⟨0, 0, 0, 0⟩ [topFrame ⟨0, 0, 0, 0⟩]) = some (.next, s, hxCode, ⟨0, 0, 0, 0⟩) := fun w s => by kernel_rfl
theorem hxL : behindTheImports pg = hxL1 ++ (hxL2 ++ (hxL3 ++ (hxL4 ++ []))) := by kernel_rfl
theorem hxC1 : ∀ (w : World) (os : OsState), hxSeg w 550 (hxPre w.params os) hxL1 ⟨0, 0, 0, 0⟩ = some (.next, hxS4 w.params os, hxCode, ⟨7, 0, 72, 47⟩) := fun w os => by kernel_rfl
theorem hxC2 : ∀ (w : World) (os : OsState), hxSeg w 514 (hxS4 w.params os) hxL2 ⟨7, 0, 72, 47⟩ = some (.next, hxS6 w.params os, hxCode, ⟨109, 0, 109, 8⟩) := fun w os => by kernel_rfl
theorem hxC3F : ∀ (w : World) (os : OsState), hxSeg (w.withFollow "special-get-raises" false) 520 (hxS6 (w.withFollow "special-get-raises" false).params os) hxL3 ⟨109, 0, 109, 8⟩ = some (.next, hxS7 (w.withFollow "special-get-raises" false).params os, hxCode, ⟨110, 0, 157, 16⟩) := fun w os => by kernel_rfl
theorem hxC3T : ∀ (w : World) (os : OsState), hxSeg (w.withFollow "special-get-raises" true) 520 (hxS6 (w.withFollow "special-get-raises" true).params os) hxL3 ⟨109, 0, 109, 8⟩ = some (.next, hxS7 (w.withFollow "special-get-raises" true).params os, hxCode, ⟨110, 0, 157, 16⟩) := fun w os => by kernel_rfl
theorem hxC3 : ∀ (w : World) (os : OsState), hxSeg w 520 (hxS6 w.params os) hxL3 ⟨109, 0, 109, 8⟩ = some (.next, hxS7 w.params os, hxCode, ⟨110, 0, 157, 16⟩) :=
  byRow2 (P := fun w => ∀ os : OsState, hxSeg w 520 (hxS6 w.params os) hxL3 ⟨109, 0, 109, 8⟩ = some (.next, hxS7 w.params os, hxCode, ⟨110, 0, 157, 16⟩)) "special-get-raises" hxC3F hxC3T
theorem hxC4 : ∀ (w : World) (os : OsState), hxSeg w 346 (hxS7 w.params os) hxL4 ⟨110, 0, 157, 16⟩ = some (.next, hxFin w.params os, hxCode, ⟨253, 0, 303, 102⟩) := fun w os => by kernel_rfl
noncomputable def hxFinH (P : Params) : Heap := absHeap (hxTree 10 (hxObjs 320 [] P)) 320 {}
noncomputable abbrev hxFinX (w : World) (os : OsState) : Shared := ⟨hxFinH w.params, #[], {}, 599, os⟩
theorem hxK1 : ∀ (w : World) (os : OsState), (staticsOk (importedModules pg.main.body) (boot_heap w.params) (hxFinH w.params) && namesBound pg (hxFinH w.params) && gensDone (hxFinX w os) && laidKept (boot_heap w.params) (hxFinH w.params)) = true := fun w os => by kernel_rfl
theorem hxK2 : ∀ (w : World) (os : OsState), openSeen qv lz (importedModules pg.main.body) xtT true (hxFinX w os) = openGood qv lz := fun w os => by kernel_rfl
theorem hxK3 : ∀ (w : World) (os : OsState), Hook.obs hkT (hxFinX w os) = Hook.val hkT w := fun w os => by kernel_rfl
theorem hxHl : LeftO pg qv lz xtT (Hook.obs hkT) (Hook.val hkT) 3920 :=
  LeftO.of_pieces (H₀ := boot_heap) (H₁ := hxFinH) (gs₀ := Array.mk []) (gs₁ := #[]) (d₀ := boot_drawn) (d₁ := {}) (k₀ := boot_toks) (k₁ := 599) (m₀ := 11) (ann := some (.ref 6)) (M := 12 + (1 + (550 + (514 + (520 + (346 + 2))))))
    hxOpen (fun w => by kernel_rfl) (fun w os => hxCuts hxL (hxC0 w os) (hxB w) (hxC1 w os) (hxC2 w os) (hxC3 w os) (hxC4 w os)) rfl
    (fun w => funext fun os => Prod.ext (hxK1 w os) (Prod.ext (hxK2 w os) (hxK3 w os)))
abbrev hxLaw : OpenLaw := PySem.Challenge.rw_xc0037_01
theorem hxW1 : namesResolve hxLaw.row.prog = true := by kernel_rfl
theorem hxW2 : noRoadLSs { strict := !(importedModules hxLaw.row.prog.main.body).all cThrough.contains, foot := none, bare := (["vars", "dir", "locals"] : List Str).filter (readsOut hxLaw.row.prog hxLaw.row.prog.main.body) } hxLaw.row.prog.main.body = true := by kernel_rfl
theorem hxW3 : (namesMeet hxLaw.row.prog hxLaw.row.prog.main.body fun _ n => attrL n) = true := by kernel_rfl
theorem hxW4 : looksOpen hxLaw.row.prog = true := by
  unfold looksOpen
  rw [hxW1, hxW2, hxW3]
  kernel_rfl
theorem hxW5 : hxLaw.row.wellSaid = true := by
  unfold OpenRow.wellSaid OpenRow.partSaid
  rw [hxW4]
  kernel_rfl
theorem hxW6 : noRoadLSs { strict := true, foot := some hxLaw.bound', writes := hxLaw.writes, may := hxLaw.may } hxLaw.footing = true := by kernel_rfl
theorem hxW7 : (hxLaw.bound'.all (fun n => !builtinNamed n || hxLaw.about == [n] || !hxLaw.reads n)) = true := by kernel_rfl
theorem hxW8 : hxLaw.wellSaid = true := by
  unfold OpenLaw.wellSaid
  rw [hxW5, hxW6, hxW7]
  kernel_rfl
theorem hxProm : hxLaw.row.toRowW.promised := by w_witness2
set_option maxHeartbeats 8000000 in
theorem hd : WalkO qv lz (XL qv []) hkT.says rwR dLaw.1 dLaw.2 (fun f vs => call f vs) → PySem.Challenge.rw_xc0037_01.Holds := by
  intro walk
  refine holds_law hxW8 fun said => ?_
  refine holds_open (r := PySem.Challenge.rw_xc0037_01.row) (q := qv) (loose := lz) (Xt := xtT) (XP := XL qv []) (Yf := Hook.obs hkT) (Ya := Hook.val hkT) (YP := Hook.says hkT) (N := 3920)
    ?hl (Hook.of _) (Hook.keeps _) (fun s e => xl_of s (Bool.and_eq_true_iff.mp e).1) XL.keeps (by kernel_rfl) (by kernel_rfl) (by kernel_rfl) (fun s e => recFacts_of (Bool.and_eq_true_iff.mp e).2) (by kernel_rfl) said (by kernel_rfl) ⟨rfl, rfl, rfl, rfl, rfl, by decide +kernel⟩ ?hw walk
  case hw => exact hxProm
  case hl => exact hxHl
end
section
noncomputable abbrev KF (w : World) : Frag := (kTop w.params).filter fun p => !(p.1 == 140 || p.1 == 147)
noncomputable abbrev Led := List (Addr × Obj)
inductive AV where
  | none
  | bool (b : Bool)
  | int (i : Int)
  | str (s : Str)
  | tup (l : List AV)
  | lst (l : List AV)
  | blst (l : List AV)
  | ref (a : Addr)
  | val (v : Value)
  | rng (a b c : Int)
  | slc (lo hi st : Option Int)
  | meth (f a : Addr)
noncomputable abbrev slcO (u v w : Value) : Obj := { cls := .type "slice", data := .fields #[u, v, w] }
noncomputable abbrev tupO (vs : List Value) : Obj := { cls := .type "tuple", data := .seq vs.toArray }
noncomputable abbrev accO (C dx : Addr) (vs : List Value) (n : Nat) : Obj := { cls := .ref C, dict := some dx, data := .seq vs.toArray n }
noncomputable abbrev rngO (a b c : Int) (t u v : Tok) : Obj := { cls := .type "range", data := .fields #[.int a t, .int b u, .int c v] }
mutual
inductive VR (B : Heap) (N : Led) : AV → Value → Prop
  | none : VR B N .none .none
  | bool (b : Bool) : VR B N (.bool b) (.bool b)
  | int (i : Int) (t : Tok) : VR B N (.int i) (.int i t)
  | str (s : Str) (t : Tok) : VR B N (.str s) (.str s t)
  | tup {a : Addr} {l : List AV} {vs : List Value} : (a, tupO vs) ∈ N → VRs B N l vs → VR B N (.tup l) (.ref a)
  | lst {a : Addr} {l : List AV} {vs : List Value} {n : Nat} : (a, W.listOf vs.toArray n) ∈ N → VRs B N l vs → VR B N (.lst l) (.ref a)
  | blst {a : Addr} {l : List AV} {vs : List Value} : B.IsList a vs.toArray → VRs B N l vs → VR B N (.blst l) (.ref a)
  | ref (a : Addr) : VR B N (.ref a) (.ref a)
  | val (v : Value) : VR B N (.val v) v
  | rng {q : Addr} {a b c : Int} {t u v : Tok} : (q, rngO a b c t u v) ∈ N → VR B N (.rng a b c) (.ref q)
  | slc {q : Addr} {lo hi st : Option Int} {u v w : Value} : (q, slcO u v w) ∈ N → IsPart u lo → IsPart v hi → IsPart w st → VR B N (.slc lo hi st) (.ref q)
  | meth {q f a : Addr} : (q, methodObj (.ref f) (.ref a)) ∈ N → VR B N (.meth f a) (.ref q)
inductive VRs (B : Heap) (N : Led) : List AV → List Value → Prop
  | nil : VRs B N [] []
  | cons {x : AV} {v : Value} {xs : List AV} {vs : List Value} : VR B N x v → VRs B N xs vs → VRs B N (x :: xs) (v :: vs)
end
noncomputable def VRI (B : Heap) (N : Led) : AV → Value → Prop
  | .none, v => v = .none
  | .bool b, v => v = .bool b
  | .int i, v => ∃ t, v = .int i t
  | .str i, v => ∃ t, v = .str i t
  | .tup l, v => ∃ a vs, v = .ref a ∧ (a, tupO vs) ∈ N ∧ VRs B N l vs
  | .lst l, v => ∃ a vs n, v = .ref a ∧ (a, W.listOf vs.toArray n) ∈ N ∧ VRs B N l vs
  | .blst l, v => ∃ a vs, v = .ref a ∧ B.IsList a vs.toArray ∧ VRs B N l vs
  | .ref a, v => v = .ref a
  | .val u, v => v = u
  | .rng a b c, v => ∃ q t u w, v = .ref q ∧ (q, rngO a b c t u w) ∈ N
  | .slc lo hi st, v => ∃ q u w x, v = .ref q ∧ (q, slcO u w x) ∈ N ∧ IsPart u lo ∧ IsPart w hi ∧ IsPart x st
  | .meth f a, v => ∃ q, v = .ref q ∧ (q, methodObj (.ref f) (.ref a)) ∈ N
noncomputable def VRsI (B : Heap) (N : Led) : List AV → List Value → Prop
  | [], us => us = []
  | x :: xs, us => ∃ v vs, us = v :: vs ∧ VR B N x v ∧ VRs B N xs vs
section
variable {B B' : Heap} {N N' : Led}
theorem VR.inv {x : AV} {v : Value} (h : VR B N x v) : VRI B N x v :=
  VR.casesOn (motive_1 := fun x v _ => VRI B N x v) h rfl (fun _ => rfl) (fun _ t => ⟨t, rfl⟩) (fun _ t => ⟨t, rfl⟩) (fun h r => ⟨_, _, rfl, h, r⟩) (fun h r => ⟨_, _, _, rfl, h, r⟩) (fun h r => ⟨_, _, rfl, h, r⟩) (fun _ => rfl) (fun _ => rfl)
    (fun h => ⟨_, _, _, _, rfl, h⟩) (fun h a b c => ⟨_, _, _, _, rfl, h, a, b, c⟩) fun h => ⟨_, rfl, h⟩
theorem VRs.inv' {x : List AV} {v : List Value} (h : VRs B N x v) : VRsI B N x v := VRs.casesOn (motive_2 := fun x v _ => VRsI B N x v) h rfl fun a b => ⟨_, _, rfl, a, b⟩
theorem VR.mono (hB : ∀ b o, B.get? b = some o → B'.get? b = some o) (hN : ∀ p ∈ N, p ∈ N') {x : AV} {v : Value} (h : VR B N x v) : VR B' N' x v :=
  VR.rec (motive_1 := fun x v _ => VR B' N' x v) (motive_2 := fun l vs _ => VRs B' N' l vs) .none .bool .int .str (fun h _ r => .tup (hN _ h) r) (fun h _ r => .lst (hN _ h) r)
    (fun h _ r => .blst (let ⟨o, ho, r⟩ := h; ⟨o, hB _ _ ho, r⟩) r) .ref .val (fun h => .rng (hN _ h)) (fun h a b c => .slc (hN _ h) a b c) (fun h => .meth (hN _ h)) .nil (fun _ _ a b => .cons a b) h
theorem VRs.ind {M : List AV → List Value → Prop} (h0 : M [] []) (h1 : ∀ x v xs vs, VR B N x v → VRs B N xs vs → M xs vs → M (x :: xs) (v :: vs)) {xs : List AV} {vs : List Value} (h : VRs B N xs vs) : M xs vs :=
  VRs.rec (motive_1 := fun _ _ _ => True) (motive_2 := fun xs vs _ => M xs vs) trivial (fun _ => trivial) (fun _ _ => trivial) (fun _ _ => trivial) (fun _ _ _ => trivial) (fun _ _ _ => trivial)
    (fun _ _ _ => trivial) (fun _ => trivial) (fun _ => trivial) (fun _ => trivial) (fun _ _ _ _ => trivial) (fun _ => trivial) h0 (fun hv r _ ih => h1 _ _ _ _ hv r ih) h
theorem VRs.mono (hB : ∀ b o, B.get? b = some o → B'.get? b = some o) (hN : ∀ p ∈ N, p ∈ N') {xs : List AV} {vs : List Value} (h : VRs B N xs vs) : VRs B' N' xs vs :=
  h.ind .nil fun _ _ _ _ a _ r => .cons (a.mono hB hN) r
theorem VR.monoN (hN : ∀ p ∈ N, p ∈ N') {x : AV} {v : Value} (h : VR B N x v) : VR B N' x v := h.mono (fun _ _ e => e) hN
theorem VRs.monoN (hN : ∀ p ∈ N, p ∈ N') {x : List AV} {v : List Value} (h : VRs B N x v) : VRs B N' x v := h.mono (fun _ _ e => e) hN
theorem VRs.length {xs : List AV} {vs : List Value} (h : VRs B N xs vs) : vs.length = xs.length := h.ind (M := fun xs vs => vs.length = xs.length) rfl fun _ _ _ _ _ _ ih => congrArg Nat.succ ih
theorem VRs.get {xs : List AV} {vs : List Value} (h : VRs B N xs vs) : ∀ {i : Nat} {x : AV}, xs[i]? = some x → ∃ v, vs[i]? = some v ∧ VR B N x v :=
  h.ind (M := fun xs vs => ∀ {i : Nat} {x : AV}, xs[i]? = some x → ∃ v, vs[i]? = some v ∧ VR B N x v) (fun e => nomatch e) fun _ v _ _ a _ ih i => match i with
    | 0 => fun e => ⟨v, rfl, Option.some.inj e ▸ a⟩
    | i + 1 => fun e => ih (i := i) e
theorem VRs.getV {xs : List AV} {vs : List Value} (h : VRs B N xs vs) : ∀ {i : Nat} {v : Value}, vs[i]? = some v → ∃ x, xs[i]? = some x ∧ VR B N x v :=
  h.ind (M := fun xs vs => ∀ {i : Nat} {v : Value}, vs[i]? = some v → ∃ x, xs[i]? = some x ∧ VR B N x v) (fun e => nomatch e) fun x _ _ _ a _ ih i => match i with
    | 0 => fun e => ⟨x, rfl, Option.some.inj e ▸ a⟩
    | i + 1 => fun e => ih (i := i) e
theorem VRs.append {xs ys : List AV} {vs us : List Value} (h : VRs B N xs vs) (k : VRs B N ys us) : VRs B N (xs ++ ys) (vs ++ us) := h.ind (M := fun xs vs => VRs B N (xs ++ ys) (vs ++ us)) k fun _ _ _ _ a _ r => .cons a r
theorem VRs.take {xs : List AV} {vs : List Value} (n : Nat) (h : VRs B N xs vs) : VRs B N (xs.take n) (vs.take n) :=
  h.ind (M := fun xs vs => ∀ n, VRs B N (xs.take n) (vs.take n)) (fun n => by cases n <;> exact .nil) (fun _ _ _ _ a _ ih n => by cases n with | zero => exact .nil | succ n => exact .cons a (ih n)) n
theorem VRs.drop {xs : List AV} {vs : List Value} (n : Nat) (h : VRs B N xs vs) : VRs B N (xs.drop n) (vs.drop n) :=
  h.ind (M := fun xs vs => ∀ n, VRs B N (xs.drop n) (vs.drop n)) (fun n => by cases n <;> exact .nil) (fun _ _ _ _ a r ih n => by cases n with | zero => exact .cons a r | succ n => exact ih n) n
theorem VRs.set {xs : List AV} {vs : List Value} (n : Nat) {x : AV} {v : Value} (h : VRs B N xs vs) (k : VR B N x v) : VRs B N (xs.set n x) (vs.set n v) :=
  h.ind (M := fun xs vs => ∀ n, VRs B N (xs.set n x) (vs.set n v)) (fun n => .nil) (fun _ _ _ _ a r ih n => by cases n with | zero => exact .cons k r | succ n => exact .cons a (ih n)) n
theorem VRs.inv0 {us : List Value} (h : VRs B N [] us) : us = [] := h.inv'
theorem VRs.inv {x : AV} {xs : List AV} {us : List Value} (h : VRs B N (x :: xs) us) : ∃ v vs, us = v :: vs ∧ VR B N x v ∧ VRs B N xs vs := h.inv'
theorem VRs.inv1 {x : AV} {us : List Value} (h : VRs B N [x] us) : ∃ v, us = [v] ∧ VR B N x v := by
  obtain ⟨v, vs, rfl, a, b⟩ := h.inv
  rw [b.inv0]; exact ⟨v, rfl, a⟩
theorem VRs.inv2 {x y : AV} {us : List Value} (h : VRs B N [x, y] us) : ∃ v w, us = [v, w] ∧ VR B N x v ∧ VR B N y w := by
  obtain ⟨v, vs, rfl, a, b⟩ := h.inv
  obtain ⟨w, rfl, b2⟩ := b.inv1
  exact ⟨v, w, rfl, a, b2⟩
theorem VRs.inv5 {x y z p q : AV} {us : List Value} (h : VRs B N [x, y, z, p, q] us) : ∃ v w u r s, us = [v, w, u, r, s] ∧ VR B N x v ∧ VR B N y w ∧ VR B N z u ∧ VR B N p r ∧ VR B N q s := by
  obtain ⟨v, vs, rfl, a, b⟩ := h.inv
  obtain ⟨w, ws, rfl, a2, b2⟩ := b.inv
  obtain ⟨u, us, rfl, a3, b3⟩ := b2.inv
  obtain ⟨r, s, rfl, b4⟩ := b3.inv2
  exact ⟨v, w, u, r, s, rfl, a, a2, a3, b4⟩
theorem VR.int_inv {i : Int} {v : Value} (h : VR B N (.int i) v) : ∃ t, v = .int i t := h.inv
theorem VR.str_inv {i : Str} {v : Value} (h : VR B N (.str i) v) : ∃ t, v = .str i t := h.inv
theorem VR.tup_inv {l : List AV} {v : Value} (h : VR B N (.tup l) v) : ∃ a vs, v = .ref a ∧ (a, tupO vs) ∈ N ∧ VRs B N l vs := h.inv
theorem VR.lst_inv {l : List AV} {v : Value} (h : VR B N (.lst l) v) : ∃ a vs n, v = .ref a ∧ (a, W.listOf vs.toArray n) ∈ N ∧ VRs B N l vs := h.inv
theorem VR.blst_inv {l : List AV} {v : Value} (h : VR B N (.blst l) v) : ∃ a vs, v = .ref a ∧ B.IsList a vs.toArray ∧ VRs B N l vs := h.inv
theorem VR.rng_inv {a b c : Int} {v : Value} (h : VR B N (.rng a b c) v) : ∃ q t u w, v = .ref q ∧ (q, rngO a b c t u w) ∈ N := h.inv
theorem VR.slc_inv {lo hi st : Option Int} {v : Value} (h : VR B N (.slc lo hi st) v) : ∃ q u w x, v = .ref q ∧ (q, slcO u w x) ∈ N ∧ IsPart u lo ∧ IsPart w hi ∧ IsPart x st := h.inv
theorem VRs.ints {xs : List Int} : ∀ {vs : List Value}, VRs B N (xs.map AV.int) vs → IntsAre vs xs := by
  induction xs with
  | nil => intro vs h; rw [h.inv0]; exact .nil
  | cons x xs ih =>
    intro vs h
    obtain ⟨v, vs, rfl, a, b⟩ := h.inv
    obtain ⟨t, rfl⟩ := a.int_inv
    exact .cons _ t (ih b)
theorem VRs.ofInts {xs : List Int} {vs : List Value} (h : IntsAre vs xs) : VRs B N (xs.map AV.int) vs := by
  induction h with
  | nil => exact .nil
  | cons i t _ ih => exact .cons (.int i t) ih
theorem VRs.strs {xs : List Str} : ∀ {vs : List Value}, VRs B N (xs.map AV.str) vs → StrsAre vs xs := by
  induction xs with
  | nil => intro vs h; rw [h.inv0]; exact .nil
  | cons x xs ih =>
    intro vs h
    obtain ⟨v, vs, rfl, a, b⟩ := h.inv
    obtain ⟨t, rfl⟩ := a.str_inv
    exact .cons _ t (ih b)
theorem VRs.ofStrs {xs : List Str} {vs : List Value} (h : StrsAre vs xs) : VRs B N (xs.map AV.str) vs := by
  induction h with
  | nil => exact .nil
  | cons i t _ ih => exact .cons (.str i t) ih
end
inductive AO where
  | list (l : List AV)
  | inst (C : Addr) (fs : List (String × AV))
  | acc (ini : Int) (l : List (Str × Str))
  | cell (v : Option AV)
  | acc0 (l : List (Str × Str))
  | table (ln cl : Nat)
  | ns (l : List (String × Option AV))
noncomputable def NsO (o : Obj) (m : Str → Option Value) : Prop := ∃ es ep, o.data = .dict es ep ∧ StrKeys es ∧ ∀ name, nsFind es name = m name
noncomputable abbrev tabO (ps : Array Value) : Obj := { cls := .none, data := .fields ps }
noncomputable abbrev pairAV (p : Str × Str) : AV := .tup [.str p.1, .str p.2]
inductive FR (B : Heap) (N : Led) : List (String × AV) → List DictEntry → Prop
  | nil : FR B N [] []
  | cons {x : String} {v : AV} {h : Int} {t : Tok} {v' : Value} {r : List (String × AV)} {es : List DictEntry} : VR B N v v' → FR B N r es → FR B N ((x, v) :: r) (⟨h, .str (Str.ofString x) t, v'⟩ :: es)
noncomputable abbrev CAcc : Addr := 178
inductive OR (B : Heap) (N : Led) : Addr → AO → Led → Prop
  | list {a : Addr} {l : List AV} {vs : List Value} {n : Nat} : VRs B N l vs → OR B N a (.list l) [(a, W.listOf vs.toArray n)]
  | inst {a C dx : Addr} {fs : List (String × AV)} {des : List DictEntry} {n : Nat} : FR B N fs des → OR B N a (.inst C fs) [(a, instObj C dx), (dx, dictOf des n)]
  | acc {a dx : Addr} {ini : Int} {l : List (Str × Str)} {vs : List Value} {n m : Nat} {h : Int} {t t' : Tok} : VRs B N (l.map pairAV) vs →
      OR B N a (.acc ini l) [(a, accO CAcc dx vs n), (dx, dictOf [⟨h, .str (Str.ofString "_initial_size") t, .int ini t'⟩] m)]
  | cell {a : Addr} {ob : Obj} {v : AV} {v' : Value} : ob.data = .cell (some v') → VR B N v v' → OR B N a (.cell (some v)) [(a, ob)]
  | uncell {a : Addr} {ob : Obj} {o : Option Value} : ob.data = .cell o → OR B N a (.cell none) [(a, ob)]
  | acc0 {a dx : Addr} {l : List (Str × Str)} {vs : List Value} {n m : Nat} : VRs B N (l.map pairAV) vs → OR B N a (.acc0 l) [(a, accO CAcc dx vs n), (dx, dictOf [] m)]
  | tab0 {a : Addr} {ln cl : Nat} : OR B N a (.table ln cl) [(a, tabO #[])]
  | ns {a : Addr} {l : List (String × Option AV)} {o : Obj} {m : Str → Option Value} : NsO o m → (l.map (·.1)).Nodup → (∀ x v, (x, some v) ∈ l → ∃ v', m (Str.ofString x) = some v' ∧ VR B N v v') → OR B N a (.ns l) [(a, o)]
  | tab1 {a : Addr} {ln cl : Nat} {c : Addr} : OR B N a (.table ln cl) [(a, tabO #[rawInt ln, rawInt cl, .ref c])]
noncomputable def ORI (B : Heap) (N : Led) (a : Addr) : AO → Led → Prop
  | .list l, e => ∃ vs n, e = [(a, W.listOf vs.toArray n)] ∧ VRs B N l vs
  | .inst C fs, e => ∃ dx des n, e = [(a, instObj C dx), (dx, dictOf des n)] ∧ FR B N fs des
  | .acc ini l, e => ∃ dx vs n m hh t t', e = [(a, accO CAcc dx vs n), (dx, dictOf [⟨hh, .str (Str.ofString "_initial_size") t, .int ini t'⟩] m)] ∧ VRs B N (l.map pairAV) vs
  | .cell (some v), e => ∃ ob v', e = [(a, ob)] ∧ ob.data = .cell (some v') ∧ VR B N v v'
  | .cell none, e => ∃ ob o, e = [(a, ob)] ∧ ob.data = .cell o
  | .acc0 l, e => ∃ dx vs n m, e = [(a, accO CAcc dx vs n), (dx, dictOf [] m)] ∧ VRs B N (l.map pairAV) vs
  | .table ln cl, e => e = [(a, tabO #[])] ∨ ∃ c, e = [(a, tabO #[rawInt ln, rawInt cl, .ref c])]
  | .ns l, e => ∃ o m, e = [(a, o)] ∧ NsO o m ∧ (l.map (·.1)).Nodup ∧ (∀ x v, (x, some v) ∈ l → ∃ v', m (Str.ofString x) = some v' ∧ VR B N v v')
section
variable {B : Heap} {N e : Led} {a : Addr}
theorem OR.inv {o : AO} (h : OR B N a o e) : ORI B N a o e :=
  OR.casesOn (motive := fun o e _ => ORI B N a o e) h (fun h => ⟨_, _, rfl, h⟩) (fun h => ⟨_, _, _, rfl, h⟩) (fun h => ⟨_, _, _, _, _, _, _, rfl, h⟩) (fun hd h => ⟨_, _, rfl, hd, h⟩) (fun hd => ⟨_, _, rfl, hd⟩) (fun h => ⟨_, _, _, _, rfl, h⟩) (.inl rfl)
    (fun h nd h2 => ⟨_, _, rfl, h, nd, h2⟩) (.inr ⟨_, rfl⟩)
theorem OR.list_inv {l : List AV} (h : OR B N a (.list l) e) : ∃ vs n, e = [(a, W.listOf vs.toArray n)] ∧ VRs B N l vs := h.inv
theorem OR.inst_inv {C : Addr} {fs : List (String × AV)} (h : OR B N a (.inst C fs) e) : ∃ dx des n, e = [(a, instObj C dx), (dx, dictOf des n)] ∧ FR B N fs des := h.inv
theorem OR.acc_inv {ini : Int} {l : List (Str × Str)} (h : OR B N a (.acc ini l) e) : ∃ dx vs n m hh t t', e = [(a, accO CAcc dx vs n), (dx, dictOf [⟨hh, .str (Str.ofString "_initial_size") t, .int ini t'⟩] m)] ∧ VRs B N (l.map pairAV) vs := h.inv
theorem OR.acc0_inv {l : List (Str × Str)} (h : OR B N a (.acc0 l) e) : ∃ dx vs n m, e = [(a, accO CAcc dx vs n), (dx, dictOf [] m)] ∧ VRs B N (l.map pairAV) vs := h.inv
theorem OR.cell_inv {v : AV} (h : OR B N a (.cell (some v)) e) : ∃ ob v', e = [(a, ob)] ∧ ob.data = .cell (some v') ∧ VR B N v v' := h.inv
theorem OR.ns_inv {l : List (String × Option AV)} (h : OR B N a (.ns l) e) : ∃ o m, e = [(a, o)] ∧ NsO o m ∧ (l.map (·.1)).Nodup ∧ (∀ x v, (x, some v) ∈ l → ∃ v', m (Str.ofString x) = some v' ∧ VR B N v v') := h.inv
theorem OR.table_inv {ln cl : Nat} (h : OR B N a (.table ln cl) e) : e = [(a, tabO #[])] ∨ ∃ c, e = [(a, tabO #[rawInt ln, rawInt cl, .ref c])] := h.inv
end
noncomputable abbrev Own := List (Addr × AO)
inductive OwnR (B : Heap) (N X : Led) : Own → Led → Prop
  | nil : OwnR B N X [] X
  | cons {a : Addr} {o : AO} {e es : Led} {H : Own} : OR B N a o e → OwnR B N X H es → OwnR B N X ((a, o) :: H) (e ++ es)
section
variable {B B' : Heap} {N N' : Led}
theorem FR.mono (hB : ∀ b o, B.get? b = some o → B'.get? b = some o) (hN : ∀ p ∈ N, p ∈ N') {fs : List (String × AV)} {des : List DictEntry} (h : FR B N fs des) : FR B' N' fs des := by
  induction h with
  | nil => exact .nil
  | cons h _ ih => exact .cons (h.mono hB hN) ih
theorem OR.mono (hB : ∀ b o, B.get? b = some o → B'.get? b = some o) (hN : ∀ p ∈ N, p ∈ N') {a : Addr} {o : AO} {e : Led} (h : OR B N a o e) : OR B' N' a o e :=
  OR.casesOn (motive := fun o e _ => OR B' N' a o e) h (fun h => .list (h.mono hB hN)) (fun h => .inst (h.mono hB hN)) (fun h => .acc (h.mono hB hN)) (fun hd h => .cell hd (h.mono hB hN)) (fun hd => .uncell hd) (fun h => .acc0 (h.mono hB hN)) .tab0
    (fun h nd h2 => .ns h nd fun x v hm => let ⟨v', e, r⟩ := h2 x v hm; ⟨v', e, r.mono hB hN⟩) .tab1
theorem OwnR.mono (hB : ∀ b o, B.get? b = some o → B'.get? b = some o) (hN : ∀ p ∈ N, p ∈ N') {X : Led} {H : Own} {es : Led} (h : OwnR B N X H es) : OwnR B' N' X H es := by
  induction h with
  | nil => exact .nil
  | cons h _ ih => exact .cons (h.mono hB hN) ih
end
inductive At (a : Addr) (o o' : AO) : Own → Own → Prop
  | head {r : Own} : At a o o' ((a, o) :: r) ((a, o') :: r)
  | tail {p : Addr × AO} {r r' : Own} : At a o o' r r' → At a o o' (p :: r) (p :: r')
noncomputable def OwnRI (B : Heap) (N X : Led) : Own → Led → Prop
  | [], es => es = X
  | (a, o) :: H, es => ∃ e es', es = e ++ es' ∧ OR B N a o e ∧ OwnR B N X H es'
theorem OwnR.inv' {B : Heap} {N X : Led} {H : Own} {es : Led} (R : OwnR B N X H es) : OwnRI B N X H es := OwnR.casesOn (motive := fun H es _ => OwnRI B N X H es) R rfl fun h r => ⟨_, _, rfl, h, r⟩
theorem OwnR.inv {B : Heap} {N X : Led} {a : Addr} {o : AO} {H : Own} {es : Led} (R : OwnR B N X ((a, o) :: H) es) : ∃ e es', es = e ++ es' ∧ OR B N a o e ∧ OwnR B N X H es' := R.inv'
theorem OwnR.at {B : Heap} {N X : Led} {a : Addr} {o o' : AO} {H H' : Own} {es : Led} (R : OwnR B N X H es) (U : At a o o' H H') :
    ∃ pre e post, es = pre ++ (e ++ post) ∧ OR B N a o e ∧ ∀ N' e', (∀ p ∈ N, p ∈ N') → OR B N' a o' e' → OwnR B N' X H' (pre ++ (e' ++ post)) := by
  induction U generalizing es with
  | head =>
    obtain ⟨e, es, rfl, h, r⟩ := R.inv
    exact ⟨[], e, es, rfl, h, fun N' e' hN h' => (OwnR.cons h' (r.mono (fun _ _ e => e) hN) : OwnR B N' X _ (e' ++ es))⟩
  | @tail p r r' U ih =>
    · obtain ⟨e0, es, rfl, h, r⟩ := R.inv
      obtain ⟨pre, e, post, rfl, ho, k⟩ := ih r
      refine ⟨e0 ++ pre, e, post, by rw [List.append_assoc], ho, fun N' e' hN h' => ?_⟩
      rw [List.append_assoc]
      exact .cons (h.mono (fun _ _ e => e) hN) (k N' e' hN h')
noncomputable abbrev Loc := List (String × Option AV)
noncomputable def locOk (sc : Scope) (x : String) : Bool := decide (sc.names.lookup (Str.ofString x) = some .local) && !(Str.ofString x == ("__debug__" : Str))
structure LocR (sc : Scope) (B : Heap) (N : Led) (m : Str → Option Value) (l : Loc) : Prop where
  nd : (l.map (·.1)).Nodup
  kd : ∀ x ∈ l.map (·.1), locOk sc x = true
  is : ∀ x v, (x, some v) ∈ l → ∃ v', m (Str.ofString x) = some v' ∧ VR B N v v'
noncomputable abbrev Tmp := List (AV × Value)
structure Cx where
  w : World
  os : OsState
  base : Heap
  outer : List Env
  A₀ : Around
  A : Around
  h₀ : Heap
  L : Addr
  nm : Str
  scope : Scope
  f : Addr
  cd : Value
  cells : List (Str × Addr)
  /-- raw objects that somebody above holds; they stay as they are -/
  X : Led
  /-- frozen objects that somebody above has looked at -/
  Y : Led
noncomputable abbrev Cx.env (c : Cx) : Env := envX c.nm c.scope c.L c.f c.cd c.cells
structure TopX (h : Heap) (mg mb : Str → Option Value) : Prop where
  g : h.Ns mainGlobals mg
  b : h.Ns builtinsNs mb
  nolimit : h.NoLimit
  builtins : ∀ x : Str, x ≠ "__name__" → mb x = bootBuiltins x
  bmod : ∃ bm ob, BMod h mainGlobals mg bm ob
theorem TopX.keeps {h h' : Heap} {mg mb : Str → Option Value} (T : TopX h mg mb) (hk : ∀ b o, h.get? b = some o → h'.get? b = some o) : TopX h' mg mb :=
  ⟨T.g.keeps hk, T.b.keeps hk, T.nolimit.keeps hk, T.builtins, let ⟨bm, ob, b⟩ := T.bmod; ⟨bm, ob, b.keeps hk⟩⟩
inductive HasTop (h : Heap) : Prop
  | intro (mg mb : Str → Option Value) (t : TopX h mg mb)
structure Room (A : Around) (k : Nat) : Prop where
  depth : A.depth + 10 * k < 900
  units : A.units + 40 * k < 9000
  handled : A.handled = none
structure Cx.Good (c : Cx) (k : Nat) : Prop where
  below : Below c.A₀ c.base c.outer c.h₀
  frames : c.A.frames = some (c.env :: c.outer)
  kind : c.scope.kind = .function
  room : Room c.A k
  K : (KF c.w).In c.h₀
  top : HasTop c.h₀
structure RepW (c : Cx) (loc : Loc) (H : Own) (T : Tmp) (s : Shared) (N es : Led) (m : Str → Option Value) : Prop where
  F : Fr c.h₀ c.L s.heap m
  nw : News c.h₀ c.L s.heap (N ++ es)
  nd : ((N ++ es).map (·.1)).Nodup
  own : OwnR c.base N c.X H es
  yk : ∀ p ∈ c.Y, p ∈ N
  tmp : ∀ p ∈ T, VR c.base N p.1 p.2
  loc : LocR c.scope c.base N m loc
  gens : AllBare s.gens
  os : s.os = c.os
inductive Rep (c : Cx) (loc : Loc) (H : Own) (T : Tmp) (s : Shared) : Prop
  | intro (N es : Led) (m : Str → Option Value) (w : RepW c loc H T s N es m)
section
variable {c : Cx} {loc : Loc} {H : Own} {T T' : Tmp} {s : Shared} {N es : Led} {m : Str → Option Value} {h' : Heap} {tk : Nat}
theorem RepW.rep (R : RepW c loc H T s N es m) : Rep c loc H T s := ⟨N, es, m, R⟩
theorem Rep.map {c' : Cx} {loc' : Loc} {H' : Own} {s' : Shared} (R : Rep c loc H T s) (h : ∀ {N es m}, RepW c loc H T s N es m → RepW c' loc' H' T' s' N es m) : Rep c' loc' H' T' s' := by
  cases R with | intro N es m w => exact ⟨N, es, m, h w⟩
theorem RepW.keep (R : RepW c loc H T s N es m) (F : Fr c.h₀ c.L h' m) (nw : News c.h₀ c.L h' (N ++ es)) : RepW c loc H T { s with heap := h', toks := tk } N es m :=
  ⟨F, nw, R.nd, R.own, R.yk, R.tmp, R.loc, R.gens, R.os⟩
theorem RepW.tok (R : RepW c loc H T s N es m) : RepW c loc H T { s with toks := tk } N es m := ⟨R.F, R.nw, R.nd, R.own, R.yk, R.tmp, R.loc, R.gens, R.os⟩
theorem Rep.tok (R : Rep c loc H T s) : Rep c loc H T { s with toks := tk } := R.map fun R => R.tok
theorem RepW.temps (R : RepW c loc H T s N es m) (h : ∀ p ∈ T', VR c.base N p.1 p.2) : RepW c loc H T' s N es m := ⟨R.F, R.nw, R.nd, R.own, R.yk, h, R.loc, R.gens, R.os⟩
theorem RepW.put (R : RepW c loc H T s N es m) {v : AV} {v' : Value} (h : VR c.base N v v') : RepW c loc H ((v, v') :: T) s N es m :=
  R.temps fun p hp => by rcases List.mem_cons.mp hp with rfl | hp; exact h; exact R.tmp p hp
theorem RepW.sub (R : RepW c loc H T s N es m) (h : ∀ p ∈ T', p ∈ T) : RepW c loc H T' s N es m := R.temps fun p hp => R.tmp p (h p hp)
theorem Rep.sub (R : Rep c loc H T s) (h : ∀ p ∈ T', p ∈ T) : Rep c loc H T' s := R.map fun R => R.sub h
theorem Rep.int (R : Rep c loc H T s) (i : Int) (t : Tok) : Rep c loc H ((.int i, .int i t) :: T) s := R.map fun R => R.put (.int i t)
theorem Rep.str (R : Rep c loc H T s) (i : Str) (t : Tok) : Rep c loc H ((.str i, .str i t) :: T) s := R.map fun R => R.put (.str i t)
theorem Rep.bool (R : Rep c loc H T s) (b : Bool) : Rep c loc H ((.bool b, .bool b) :: T) s := R.map fun R => R.put (.bool b)
theorem Rep.none (R : Rep c loc H T s) : Rep c loc H ((.none, .none) :: T) s := R.map fun R => R.put .none
end
theorem ofString_inj {x y : String} (h : Str.ofString x = Str.ofString y) : x = y := by
  rw [Str.ofString_eq_toList, Str.ofString_eq_toList] at h
  have h1 : x.toList.map Char.toNat = y.toList.map Char.toNat := by
    have := congrArg (fun z : Str => z.cps.toList) h
    simpa using this
  have inj : Function.Injective Char.toNat := fun a b h => Char.ext (UInt32.toNat_inj.mp h)
  exact String.toList_inj.mp ((List.map_inj_right (fun a b h => inj h)).mp h1)
inductive SetL (x : String) (v : AV) : Loc → Loc → Prop
  | head {u : Option AV} {r : Loc} : SetL x v ((x, u) :: r) ((x, some v) :: r)
  | tail {p : String × Option AV} {r r' : Loc} : SetL x v r r' → SetL x v (p :: r) (p :: r')
theorem SetL.names {x : String} {v : AV} {l l' : Loc} (h : SetL x v l l') : l'.map (·.1) = l.map (·.1) := by
  induction h with
  | head => rfl
  | tail _ ih => simp [ih]
theorem SetL.mem {x : String} {v : AV} {l l' : Loc} (h : SetL x v l l') (nd : (l.map (·.1)).Nodup) : ∀ y u, (y, some u) ∈ l' → (y = x ∧ u = v) ∨ (y ≠ x ∧ (y, some u) ∈ l) := by
  induction h with
  | @head u r =>
    intro y w hm
    rcases List.mem_cons.mp hm with e | hm'
    · cases e; exact .inl ⟨rfl, rfl⟩
    · refine .inr ⟨?_, List.mem_cons_of_mem _ hm'⟩
      rintro rfl
      simp only [List.map_cons, List.nodup_cons] at nd
      exact nd.1 (List.mem_map.mpr ⟨(y, some w), hm', rfl⟩)
  | @tail p r r' h ih =>
    intro y w hm
    simp only [List.map_cons, List.nodup_cons] at nd
    rcases List.mem_cons.mp hm with rfl | hm
    · refine .inr ⟨?_, .head _⟩
      rintro rfl
      refine nd.1 ?_
      rw [← h.names]
      have : ∀ {l l' : Loc}, SetL y v l l' → y ∈ l'.map (·.1) := by
        intro l l' h
        induction h with
        | head => simp
        | tail _ ih => simp [ih]
      exact this h
    · rcases ih nd.2 y w hm with h | ⟨h1, h2⟩
      · exact .inl h
      · exact .inr ⟨h1, .tail _ h2⟩
theorem LocR.set {sc : Scope} {B : Heap} {N : Led} {m : Str → Option Value} {l l' : Loc} {x : String} {v : AV} {v' : Value} (R : LocR sc B N m l) (h : SetL x v l l') (hv : VR B N v v') :
    LocR sc B N (fun y => if y = Str.ofString x then some v' else m y) l' := by
  refine ⟨by rw [h.names]; exact R.nd, by rw [h.names]; exact R.kd, fun y u hm => ?_⟩
  rcases h.mem R.nd y u hm with ⟨rfl, rfl⟩ | ⟨hne, hm⟩
  · exact ⟨v', by simp, hv⟩
  · obtain ⟨u', h1, h2⟩ := R.is y u hm
    exact ⟨u', by rw [if_neg fun e => hne (ofString_inj e)]; exact h1, h2⟩
theorem mi {α : Type} {l : List α} {a : α} (i : Nat) (h : l[i]? = some a) : a ∈ l := List.mem_of_getElem? h
theorem mem_at {a : Addr} {o o' : AO} {H H' : Own} (U : At a o o' H H') : (a, o) ∈ H := by
  induction U with
  | head => exact .head _
  | tail _ ih => exact .tail _ ih
theorem OwnR.mem {B : Heap} {N X : Led} {a : Addr} {o : AO} {H : Own} {es : Led} (R : OwnR B N X H es) (hm : (a, o) ∈ H) : ∃ pre e post, es = pre ++ (e ++ post) ∧ OR B N a o e := by
  induction R with
  | nil => cases hm
  | @cons b o' e es H h r ih =>
    rcases List.mem_cons.mp hm with e' | hm
    · cases e'; exact ⟨[], e, es, rfl, h⟩
    · obtain ⟨pre, e₁, post, rfl, ho⟩ := ih hm
      exact ⟨e ++ pre, e₁, post, by rw [List.append_assoc], ho⟩
section
variable {c : Cx} {loc : Loc} {H : Own} {T T' : Tmp} {s : Shared} {N es : Led} {m : Str → Option Value} {h' : Heap} {tk : Nat}
inductive HasObj (c : Cx) (N es : Led) (a : Addr) (o : AO) : Prop
  | intro (e : Led) (h : OR c.base N a o e) (i : ∀ p ∈ e, p ∈ N ++ es)
theorem RepW.get (R : RepW c loc H T s N es m) {a : Addr} {o : AO} (hm : (a, o) ∈ H) : HasObj c N es a o := by
  obtain ⟨pre, e, post, rfl, ho⟩ := R.own.mem hm
  exact ⟨e, ho, fun p hp => by simp [hp]⟩
theorem RepW.newN (R : RepW c loc H T s N es m) {q : Addr} {ob : Obj} (F : Fr c.h₀ c.L h' m) (nw : News c.h₀ c.L h' ((q, ob) :: (N ++ es))) (hq : ∀ p ∈ N ++ es, p.1 < q) :
    RepW c loc H T { s with heap := h', toks := tk } ((q, ob) :: N) es m := by
  have hN : ∀ p ∈ N, p ∈ (q, ob) :: N := fun p hp => .tail _ hp
  refine ⟨F, nw, ?_, R.own.mono (fun _ _ e => e) hN, fun p hp => hN p (R.yk p hp), fun p hp => (R.tmp p hp).monoN hN, ⟨R.loc.nd, R.loc.kd, fun x v hm => ?_⟩, R.gens, R.os⟩
  · show (q :: (N ++ es).map (·.1)).Nodup
    refine List.nodup_cons.mpr ⟨fun hm => ?_, R.nd⟩
    obtain ⟨p, hp, e⟩ := List.mem_map.mp hm
    exact absurd (hq p hp) (by rw [e]; exact Nat.lt_irrefl _)
  · obtain ⟨v', h1, h2⟩ := R.loc.is x v hm
    exact ⟨v', h1, h2.monoN hN⟩
theorem nodup_front {α : Type} {x : α} {a b : List α} (h : (x :: (a ++ b)).Nodup) : (a ++ x :: b).Nodup := by
  simp only [List.nodup_cons, List.nodup_append, List.mem_append, List.mem_cons] at h ⊢
  obtain ⟨h1, h2, h3, h4⟩ := h
  refine ⟨h2, ⟨fun hb => h1 (.inr hb), h3⟩, fun y hy z hz => ?_⟩
  rcases hz with rfl | hz
  · rintro rfl; exact h1 (.inl hy)
  · exact h4 y hy z hz
theorem RepW.newO (R : RepW c loc H T s N es m) {q : Addr} {ob : Obj} {o : AO} (F : Fr c.h₀ c.L h' m) (nw : News c.h₀ c.L h' ((q, ob) :: (N ++ es))) (hq : ∀ p ∈ N ++ es, p.1 < q) (ho : OR c.base N q o [(q, ob)]) :
    RepW c loc ((q, o) :: H) T { s with heap := h', toks := tk } N ((q, ob) :: es) m := by
  refine ⟨F, fun p hp => nw p ?_, ?_, .cons ho R.own, R.yk, R.tmp, R.loc, R.gens, R.os⟩
  · rcases List.mem_append.mp hp with hp | hp
    · exact .tail _ (List.mem_append_left _ hp)
    · rcases List.mem_cons.mp hp with rfl | hp
      · exact .head _
      · exact .tail _ (List.mem_append_right _ hp)
  · rw [List.map_append, List.map_cons]
    refine nodup_front ?_
    rw [← List.map_append]
    refine List.nodup_cons.mpr ⟨fun hm => ?_, R.nd⟩
    obtain ⟨p, hp, e⟩ := List.mem_map.mp hm
    exact absurd (hq p hp) (by rw [e]; exact Nat.lt_irrefl _)
theorem RepW.newO2 (R : RepW c loc H T s N es m) {q d : Addr} {ob od : Obj} {o : AO} (F : Fr c.h₀ c.L h' m) (nw : News c.h₀ c.L h' ((q, ob) :: (d, od) :: (N ++ es))) (hd : ∀ p ∈ N ++ es, p.1 < d) (hq : d < q) (ho : OR c.base N q o [(q, ob), (d, od)]) :
    RepW c loc ((q, o) :: H) T { s with heap := h', toks := tk } N ((q, ob) :: (d, od) :: es) m := by
  refine ⟨F, fun p hp => nw p ?_, ?_, .cons ho R.own, R.yk, R.tmp, R.loc, R.gens, R.os⟩
  · rcases List.mem_append.mp hp with hp | hp
    · exact .tail _ (.tail _ (List.mem_append_left _ hp))
    · rcases List.mem_cons.mp hp with rfl | hp
      · exact .head _
      · rcases List.mem_cons.mp hp with rfl | hp
        · exact .tail _ (.head _)
        · exact .tail _ (.tail _ (List.mem_append_right _ hp))
  · have nd1 : ((N ++ ((d, od) :: es)).map (·.1)).Nodup := by
      rw [List.map_append, List.map_cons]
      refine nodup_front ?_
      rw [← List.map_append]
      refine List.nodup_cons.mpr ⟨fun hm => ?_, R.nd⟩
      obtain ⟨p, hp, e⟩ := List.mem_map.mp hm
      exact absurd (hd p hp) (by rw [e]; exact Nat.lt_irrefl _)
    rw [List.map_append, List.map_cons]
    refine nodup_front ?_
    rw [← List.map_append]
    refine List.nodup_cons.mpr ⟨fun hm => ?_, nd1⟩
    obtain ⟨p, hp, e⟩ := List.mem_map.mp hm
    have : p.1 ≤ d := by
      rcases List.mem_append.mp hp with hp | hp
      · exact Nat.le_of_lt (hd p (List.mem_append_left _ hp))
      · rcases List.mem_cons.mp hp with rfl | hp
        · exact Nat.le_refl _
        · exact Nat.le_of_lt (hd p (List.mem_append_right _ hp))
    rw [e] at this
    exact absurd hq (Nat.not_lt.mpr this)
theorem nodup_split {P Q : Led} {d : Addr} {ob : Obj} (h : ((P ++ (d, ob) :: Q).map (·.1)).Nodup) : (∀ p ∈ P, p.1 ≠ d) ∧ ∀ p ∈ Q, p.1 ≠ d := by
  rw [List.map_append, List.map_cons, List.nodup_append, List.nodup_cons] at h
  obtain ⟨_, ⟨h1, _⟩, h2⟩ := h
  refine ⟨fun p hp e => h2 p.1 (List.mem_map.mpr ⟨p, hp, rfl⟩) d (.head _) e, fun p hp e => h1 (List.mem_map.mpr ⟨p, hp, e⟩)⟩
inductive UpdAt (c : Cx) (loc : Loc) (H' : Own) (T : Tmp) (s : Shared) (N es : Led) (m : Str → Option Value) (a : Addr) (o' : AO) (e1 : Led) (d : Addr) (ob : Obj) (e2 : Led) : Prop
  | intro (P Q : Led) (e : N ++ es = P ++ (d, ob) :: Q) (h1 : ∀ p ∈ P, p.1 ≠ d) (h2 : ∀ p ∈ Q, p.1 ≠ d)
      (fin : ∀ ob' h' tk, OR c.base N a o' (e1 ++ (d, ob') :: e2) → Fr c.h₀ c.L h' m → News c.h₀ c.L h' (P ++ (d, ob') :: Q) → Rep c loc H' T { s with heap := h', toks := tk })
inductive HasUpd (c : Cx) (loc : Loc) (H' : Own) (T : Tmp) (s : Shared) (N es : Led) (m : Str → Option Value) (a : Addr) (o o' : AO) : Prop
  | intro (e : Led) (h : OR c.base N a o e) (k : ∀ e1 d ob e2, e = e1 ++ (d, ob) :: e2 → UpdAt c loc H' T s N es m a o' e1 d ob e2)
theorem RepW.upd (R : RepW c loc H T s N es m) {a : Addr} {o o' : AO} {H' : Own} (U : At a o o' H H') : HasUpd c loc H' T s N es m a o o' := by
  obtain ⟨pre, e, post, rfl, ho, k⟩ := R.own.at U
  refine ⟨e, ho, ?_⟩
  rintro e1 d ob e2 rfl
  have e' : ∀ ob', N ++ (pre ++ ((e1 ++ (d, ob') :: e2) ++ post)) = (N ++ pre ++ e1) ++ (d, ob') :: (e2 ++ post) := fun ob' => by simp
  have nd := R.nd
  rw [e' ob] at nd
  obtain ⟨h1, h2⟩ := nodup_split nd
  refine ⟨_, _, e' ob, h1, h2, fun ob' h' tk ho' F nw => ⟨N, _, m, F, ?_, ?_, k N _ (fun p hp => hp) ho', R.yk, R.tmp, R.loc, R.gens, R.os⟩⟩
  · rw [e' ob']; exact nw
  · rw [e' ob']
    rw [List.map_append, List.map_cons] at nd ⊢
    exact nd
theorem upd_of {P Q : Led} {d : Addr} {ob ob' : Obj} : (∀ p ∈ P, p.1 ≠ d) → (∀ p ∈ Q, p.1 ≠ d) → Upd d ob ob' (P ++ (d, ob) :: Q) (P ++ (d, ob') :: Q) := by
  intro h1 h2
  induction P with
  | nil => exact .head h2
  | cons p P ih => exact .tail (h1 p (.head _)) (ih fun q hq => h1 q (.tail _ hq))
theorem Rep.drop {p : Addr × AO} (R : Rep c loc (p :: H) T s) : Rep c loc H T s := by
  obtain ⟨N, es, m, R⟩ := R
  obtain ⟨F, nw, nd, own, yk, tmp, lc, g, os⟩ := R
  · obtain ⟨e, es, rfl, h, r⟩ := own.inv
    refine ⟨N, _, m, F, fun p hp => nw p ?_, ?_, r, yk, tmp, lc, g, os⟩
    · rcases List.mem_append.mp hp with hp | hp
      · exact List.mem_append_left _ hp
      · exact List.mem_append_right _ (List.mem_append_right _ hp)
    · refine nd.sublist (List.Sublist.map _ (List.Sublist.append (List.Sublist.refl _) (List.sublist_append_right _ _)))
theorem Rep.freeze {a : Addr} {l : List AV} (R : Rep c loc ((a, .list l) :: H) T s) : Rep c loc H ((.lst l, .ref a) :: T) s := by
  obtain ⟨N, es, m, R⟩ := R
  obtain ⟨F, nw, nd, own, yk, tmp, lc, g, os⟩ := R
  obtain ⟨e, es', rfl, h0, r⟩ := own.inv
  · obtain ⟨vs, n, rfl, h⟩ := h0.list_inv
    · have hN : ∀ p ∈ N, p ∈ (a, W.listOf vs.toArray n) :: N := fun p hp => .tail _ hp
      refine ⟨(a, W.listOf vs.toArray n) :: N, es', m, F, fun p hp => nw p ?_, ?_, r.mono (fun _ _ e => e) hN, fun p hp => hN p (yk p hp), fun p hp => ?_, ⟨lc.nd, lc.kd, fun x v hm => ?_⟩, g, os⟩
      · rcases List.mem_cons.mp hp with rfl | hp
        · simp
        · rcases List.mem_append.mp hp with hp | hp <;> simp [hp]
      · simp only [List.cons_append, List.nil_append, List.map_cons, List.map_append, List.nodup_cons, List.nodup_append, List.mem_append, List.mem_cons] at nd ⊢
        obtain ⟨h1, ⟨h2, h3⟩, h4⟩ := nd
        refine ⟨fun h => ?_, h1, h3, fun x hx y hy => h4 x hx y (.inr hy)⟩
        rcases h with h | h
        · exact h4 a h a (.inl rfl) rfl
        · exact h2 h
      · rcases List.mem_cons.mp hp with rfl | hp
        · exact .lst (.head _) (h.monoN hN)
        · exact (tmp p hp).monoN hN
      · obtain ⟨v', h1, h2⟩ := lc.is x v hm
        exact ⟨v', h1, h2.monoN hN⟩
end
end
section
noncomputable abbrev EF : Value → Shared → Prop := fun _ _ => False
inductive WOut (c : Cx) (loc : Loc) (T : Tmp) (P : AV → Own → Prop) (v' : Value) (s' : Shared) : Prop
  | intro (v : AV) (H : Own) (R : Rep c loc H ((v, v') :: T) s') (p : P v H)
inductive BOut (c : Cx) (loc : Loc) (T : Tmp) (P : Bool → Own → Prop) (b : Bool) (s' : Shared) : Prop
  | intro (H : Own) (R : Rep c loc H T s') (p : P b H)
inductive HOut (c : Cx) (loc : Loc) (T : Tmp) (P : Own → Prop) (s' : Shared) : Prop
  | intro (H : Own) (R : Rep c loc H T s') (p : P H)
inductive LOut (c : Cx) (T : Tmp) (Q : Loc → Own → Prop) (s' : Shared) : Prop
  | intro (l : Loc) (H : Own) (R : Rep c l H T s') (p : Q l H)
noncomputable def W (c : Cx) (T : Tmp) (t : Sem Value) (loc : Loc) (P : AV → Own → Prop) (s : Shared) : Prop :=
  wpAny (model pg c.w) c.A t (WOut c loc T P) EF s
noncomputable def AE (c : Cx) (env : Env) (e : Expr) (loc : Loc) (H : Own) (P : AV → Own → Prop) : Prop := ∀ T s, Rep c loc H T s → W c T (eval e env) loc P s
inductive AFl where
  | next | brk | cont
  | ret (v : AV)
inductive FlR (T : Tmp) : AFl → Flow → Tmp → Prop
  | next : FlR T .next .next T
  | brk : FlR T .brk .brk T
  | cont : FlR T .cont .cont T
  | ret {v : AV} {v' : Value} : FlR T (.ret v) (.ret v') ((v, v') :: T)
noncomputable abbrev SP := AFl → Loc → Own → Prop
inductive FOut (c : Cx) (T : Tmp) (P : SP) (f' : Flow) (s' : Shared) : Prop
  | intro (f : AFl) (l : Loc) (H : Own) (T' : Tmp) (h : FlR T f f' T') (R : Rep c l H T' s') (p : P f l H)
noncomputable def WS (c : Cx) (T : Tmp) (t : Sem Flow) (P : SP) (s : Shared) : Prop :=
  wpAny (model pg c.w) c.A t (FOut c T P) EF s
noncomputable def AS (c : Cx) (env : Env) (st : Stmt) (loc : Loc) (H : Own) (P : SP) : Prop := ∀ T s, Rep c loc H T s → WS c T (exec st env) P s
noncomputable def ASs (c : Cx) (env : Env) (st : List Stmt) (loc : Loc) (H : Own) (P : SP) : Prop := ∀ T s, Rep c loc H T s → WS c T (execs st env) P s
noncomputable def AB (c : Cx) (env : Env) (e : Expr) (loc : Loc) (H : Own) (P : Bool → Own → Prop) : Prop := ∀ T s, Rep c loc H T s →
  wpAny (model pg c.w) c.A (isTrue e env (eval e env)) (BOut c loc T P) EF s
section
variable {c : Cx} {A : Around} {loc : Loc} {T : Tmp} {s : Shared} {E : Value → Shared → Prop}
theorem thenWA {t : Sem Value} {P : AV → Own → Prop} {Q : Value → Shared → Prop} (h : wpAny (model pg c.w) A t (WOut c loc T P) EF s) (k : ∀ v' s' v H, Rep c loc H ((v, v') :: T) s' → P v H → Q v' s') : wpAny (model pg c.w) A t Q E s :=
  wpAny_mono h (fun v' s' o => WOut.casesOn o fun v H R p => k v' s' v H R p) fun _ _ e => False.elim e
theorem thenW {t : Sem Value} {P : AV → Own → Prop} {Q : Value → Shared → Prop} (h : W c T t loc P s) (k : ∀ v' s' v H, Rep c loc H ((v, v') :: T) s' → P v H → Q v' s') : wpAny (model pg c.w) c.A t Q E s := thenWA h k
theorem thenB {t : Sem Bool} {P : Bool → Own → Prop} {Q : Bool → Shared → Prop} (h : wpAny (model pg c.w) A t (BOut c loc T P) EF s) (k : ∀ b s' H, Rep c loc H T s' → P b H → Q b s') : wpAny (model pg c.w) A t Q E s :=
  wpAny_mono h (fun b s' o => BOut.casesOn o fun H R p => k b s' H R p) fun _ _ e => False.elim e
theorem thenH {α : Type} {t : Sem α} {P : Own → Prop} {Q : α → Shared → Prop} (h : wpAny (model pg c.w) A t (fun _ s' => HOut c loc T P s') EF s) (k : ∀ b s' H, Rep c loc H T s' → P H → Q b s') : wpAny (model pg c.w) A t Q E s :=
  wpAny_mono h (fun b s' o => HOut.casesOn o fun H R p => k b s' H R p) fun _ _ e => False.elim e
theorem thenL {α : Type} {t : Sem α} {P : Loc → Own → Prop} {Q : α → Shared → Prop} (h : wpAny (model pg c.w) A t (fun _ s' => LOut c T P s') EF s) (k : ∀ b s' l H, Rep c l H T s' → P l H → Q b s') : wpAny (model pg c.w) A t Q E s :=
  wpAny_mono h (fun b s' o => LOut.casesOn o fun l H R p => k b s' l H R p) fun _ _ e => False.elim e
theorem thenF {t : Sem Flow} {P : SP} {Q : Flow → Shared → Prop} (h : WS c T t P s) (k : ∀ f' s' f l H T', FlR T f f' T' → Rep c l H T' s' → P f l H → Q f' s') : wpAny (model pg c.w) c.A t Q E s :=
  wpAny_mono h (fun f' s' o => FOut.casesOn o fun f l H T' hf R p => k f' s' f l H T' hf R p) fun _ _ e => False.elim e
end
inductive ArgsIn (T : Tmp) : List AV → List Value → Prop
  | nil : ArgsIn T [] []
  | cons {x : AV} {v : Value} {xs : List AV} {vs : List Value} : (x, v) ∈ T → ArgsIn T xs vs → ArgsIn T (x :: xs) (v :: vs)
noncomputable def ArgsI (T : Tmp) : List AV → List Value → Prop
  | [], vs => vs = []
  | x :: xs, vs => ∃ v us, vs = v :: us ∧ (x, v) ∈ T ∧ ArgsIn T xs us
theorem ArgsIn.inv' {T : Tmp} {xs : List AV} {vs : List Value} (h : ArgsIn T xs vs) : ArgsI T xs vs := ArgsIn.casesOn (motive := fun xs vs _ => ArgsI T xs vs) h rfl fun m r => ⟨_, _, rfl, m, r⟩
theorem ArgsIn.inv {T : Tmp} {x : AV} {xs : List AV} {vs : List Value} (h : ArgsIn T (x :: xs) vs) : ∃ v us, vs = v :: us ∧ (x, v) ∈ T ∧ ArgsIn T xs us := h.inv'
theorem ArgsIn.one {T : Tmp} {x : AV} {vs : List Value} (h : ArgsIn T [x] vs) : ∃ v, vs = [v] ∧ (x, v) ∈ T := by
  obtain ⟨v, us, rfl, m, r⟩ := h.inv
  obtain rfl : us = [] := r.inv'
  exact ⟨_, rfl, m⟩
theorem ArgsIn.two {T : Tmp} {x y : AV} {vs : List Value} (h : ArgsIn T [x, y] vs) : ∃ v w, vs = [v, w] ∧ (x, v) ∈ T ∧ (y, w) ∈ T := by
  obtain ⟨v, us, rfl, m, r⟩ := h.inv
  obtain ⟨w, rfl, m2⟩ := r.one
  exact ⟨_, _, rfl, m, m2⟩
theorem ArgsIn.three {T : Tmp} {x y z : AV} {vs : List Value} (h : ArgsIn T [x, y, z] vs) : ∃ v w u, vs = [v, w, u] ∧ (x, v) ∈ T ∧ (y, w) ∈ T ∧ (z, u) ∈ T := by
  obtain ⟨v, us, rfl, m, r⟩ := h.inv
  obtain ⟨w, u, rfl, m2⟩ := r.two
  exact ⟨_, _, _, rfl, m, m2⟩
theorem ln1 {α : Type} {l : List α} (h : l.length = 1) : ∃ x, l = [x] := List.length_eq_one_iff.mp h
theorem lnS {α : Type} {l : List α} {n : Nat} (h : l.length = n + 1) : ∃ x r, l = x :: r ∧ r.length = n := by
  cases l with
  | nil => cases h
  | cons x r => exact ⟨x, r, rfl, Nat.succ.inj h⟩
theorem ln2 {α : Type} {l : List α} (h : l.length = 2) : ∃ x y, l = [x, y] := by
  obtain ⟨x, r, rfl, h2⟩ := lnS h
  obtain ⟨y, rfl⟩ := ln1 h2
  exact ⟨x, y, rfl⟩
theorem ln3 {α : Type} {l : List α} (h : l.length = 3) : ∃ x y z, l = [x, y, z] := by
  obtain ⟨x, r, rfl, h2⟩ := lnS h
  obtain ⟨y, z, rfl⟩ := ln2 h2
  exact ⟨x, y, z, rfl⟩
theorem ln4 {α : Type} {l : List α} (h : l.length = 4) : ∃ x y z u, l = [x, y, z, u] := by
  obtain ⟨x, r, rfl, h2⟩ := lnS h
  obtain ⟨y, z, u, rfl⟩ := ln3 h2
  exact ⟨x, y, z, u, rfl⟩
theorem ln5 {α : Type} {l : List α} (h : l.length = 5) : ∃ x y z u v, l = [x, y, z, u, v] := by
  obtain ⟨x, r, rfl, h2⟩ := lnS h
  obtain ⟨y, z, u, v, rfl⟩ := ln4 h2
  exact ⟨x, y, z, u, v, rfl⟩
theorem ArgsIn.vrs {T : Tmp} {B : Heap} {N : Led} (h : ∀ p ∈ T, VR B N p.1 p.2) {xs : List AV} {vs : List Value} (a : ArgsIn T xs vs) : VRs B N xs vs := by
  induction a with
  | nil => exact .nil
  | cons m _ ih => exact .cons (h _ m) ih
theorem ArgsIn.mono {T T' : Tmp} (h : ∀ p ∈ T, p ∈ T') {xs : List AV} {vs : List Value} (a : ArgsIn T xs vs) : ArgsIn T' xs vs := by
  induction a with
  | nil => exact .nil
  | cons m _ ih => exact .cons (h _ m) ih
theorem ArgsIn.length {T : Tmp} {xs : List AV} {vs : List Value} (a : ArgsIn T xs vs) : vs.length = xs.length := by
  induction a with
  | nil => rfl
  | cons _ _ ih => exact congrArg Nat.succ ih
noncomputable def RP (c : Cx) (loc : Loc) (T : Tmp) (P : AV → Own → Prop) (r : Result) (s' : Shared) : Prop := match r with
  | .ok (.ret v') => WOut c loc T P v' s'
  | _ => False
noncomputable def AF (k : Nat) (f : Value) (args : List AV) (H : Own) (P : AV → Own → Prop) : Prop :=
  ∀ (c : Cx) (A : Around) (loc : Loc) (T : Tmp) (s : Shared) (args' : List Value), c.Good 0 → A.frames = some (c.env :: c.outer) → Room A k → Rep c loc H T s → ArgsIn T args args' →
    codeAny (model pg c.w) A (.call f ⟨args', []⟩) (RP c loc T P) s
theorem AE.mono {c : Cx} {env : Env} {e : Expr} {loc : Loc} {H : Own} {P P' : AV → Own → Prop} (h : AE c env e loc H P) (hp : ∀ v H, P v H → P' v H) : AE c env e loc H P' :=
  fun T s R => thenW (h T s R) fun _ _ v H r p => ⟨v, H, r, hp _ _ p⟩
theorem AF.mono {k : Nat} {f : Value} {args : List AV} {H : Own} {P P' : AV → Own → Prop} (h : AF k f args H P) (hp : ∀ v H, P v H → P' v H) : AF k f args H P' :=
  fun c A loc T s args' G hA hR R hI => codeAny_mono (h c A loc T s args' G hA hR R hI) fun r s' hr => by
    unfold RP at hr ⊢
    split at hr
    · obtain ⟨v, H', r, p⟩ := hr; exact ⟨v, H', r, hp _ _ p⟩
    · exact hr
theorem Room.le {A : Around} {k j : Nat} (R : Room A k) (h : j ≤ k) : Room A j := ⟨by have := R.depth; omega, by have := R.units; omega, R.handled⟩
theorem Cx.Good.le {c : Cx} {k j : Nat} (G : c.Good k) (h : j ≤ k) : c.Good j := ⟨G.below, G.frames, G.kind, G.room.le h, G.K, G.top⟩
theorem LocR.temps {B : Heap} {N : Led} {m : Str → Option Value} : ∀ {l : Loc}, (∀ x v, (x, some v) ∈ l → ∃ v', m (Str.ofString x) = some v' ∧ VR B N v v') →
    ∃ T : Tmp, (∀ p ∈ T, VR B N p.1 p.2) ∧ ∀ x v, (x, some v) ∈ l → ∃ v', m (Str.ofString x) = some v' ∧ (v, v') ∈ T
  | [], _ => ⟨[], (fun _ h => nomatch h), fun _ _ h => nomatch h⟩
  | (x, u) :: l, h => by
    obtain ⟨T, h1, h2⟩ := LocR.temps (l := l) fun x v hm => h x v (.tail _ hm)
    cases u with
    | none => exact ⟨T, h1, fun y v hm => by rcases List.mem_cons.mp hm with e | hm; cases e; exact h2 y v hm⟩
    | some u =>
      obtain ⟨u', e1, e2⟩ := h x u (.head _)
      refine ⟨(u, u') :: T, fun p hp => ?_, fun y v hm => ?_⟩
      · rcases List.mem_cons.mp hp with rfl | hp
        · exact e2
        · exact h1 p hp
      · rcases List.mem_cons.mp hm with e | hm
        · cases e; exact ⟨u', e1, .head _⟩
        · obtain ⟨v', q1, q2⟩ := h2 y v hm
          exact ⟨v', q1, .tail _ q2⟩
noncomputable def loc0 (xs : List String) (vs : List AV) (ys : List String) : Loc := (xs.zip (vs.map some)) ++ ys.map fun y => (y, none)
theorem lookup_zip {xs : List String} : ∀ {vs : List Value} {i : Nat} {x : String} {v : Value}, (xs.map Str.ofString).Nodup → xs[i]? = some x → vs[i]? = some v → ((xs.map Str.ofString).zip vs).lookup (Str.ofString x) = some v := by
  induction xs with
  | nil => intro vs i x v _ h; simp at h
  | cons y ys ih =>
    intro vs i x v nd h1 h2
    cases vs with
    | nil => simp at h2
    | cons u us =>
      simp only [List.map_cons, List.nodup_cons] at nd
      cases i with
      | zero =>
        simp at h1 h2; subst h1 h2; simp [List.lookup_cons]
      | succ i =>
        simp at h1 h2
        have hx : x ∈ ys := List.mem_of_getElem? h1
        rw [List.map_cons, List.zip_cons_cons, List.lookup_cons]
        have : (Str.ofString x == Str.ofString y) = false := by
          rw [beq_eq_false_iff_ne]
          intro e
          exact nd.1 (e ▸ List.mem_map_of_mem hx)
        rw [this]
        exact ih nd.2 h1 h2
theorem lookup_reverse_nodup {l : List (Str × Value)} (nd : (l.map (·.1)).Nodup) (x : Str) : l.reverse.lookup x = l.lookup x := by
  have key : ∀ (l : List (Str × Value)) (y : Str) (v : Value), (l.map (·.1)).Nodup → (l.lookup y = some v ↔ (y, v) ∈ l) := by
    intro l
    induction l with
    | nil => intro y v _; simp
    | cons p r ih =>
      intro y v nd
      obtain ⟨a, b⟩ := p
      simp only [List.map_cons, List.nodup_cons] at nd
      rw [List.lookup_cons]
      by_cases h : (y == a) = true
      · rw [h]
        have : y = a := eq_of_beq h
        subst this
        constructor
        · intro e; simp at e; subst e; exact .head _
        · intro hm
          rcases List.mem_cons.mp hm with e | hm
          · cases e; rfl
          · exact absurd (List.mem_map.mpr ⟨(y, v), hm, rfl⟩) nd.1
      · simp only [Bool.not_eq_true] at h
        rw [h]
        show r.lookup y = some v ↔ _
        rw [ih y v nd.2]
        constructor
        · intro hm; exact .tail _ hm
        · intro hm
          rcases List.mem_cons.mp hm with e | hm
          · cases e; simp at h
          · exact hm
  apply Option.ext
  intro v
  rw [key l.reverse x v (by rw [List.map_reverse]; exact (List.reverse_perm _).nodup_iff.mpr nd), key l x v nd, List.mem_reverse]
theorem locR0 {sc : Scope} {B : Heap} {N : Led} {xs ys : List String} {vs : List AV} {vs' : List Value} (hv : VRs B N vs vs') (hl : vs.length = xs.length) (nd : (xs ++ ys).Nodup) (hk : ((xs ++ ys).all (locOk sc)) = true) :
    LocR sc B N (fun y => ((xs.map Str.ofString).zip vs').reverse.lookup y) (loc0 xs vs ys) := by
  have hl' := hv.length
  have nx : (xs.map Str.ofString).Nodup := by
    have := (List.nodup_append.mp nd).1
    exact List.Pairwise.map _ (fun a b h e => h (ofString_inj e)) this
  have e : (loc0 xs vs ys).map (·.1) = xs ++ ys := by
    unfold loc0
    rw [List.map_append, List.map_map]
    congr 1
    · rw [List.map_fst_zip]; simp [hl]
    · simp [Function.comp_def]
  refine ⟨by rw [e]; exact nd, fun x hx => List.all_eq_true.mp hk x (e ▸ hx), fun x v hm => ?_⟩
  · have hm : (x, some v) ∈ xs.zip (vs.map some) := by
      rcases List.mem_append.mp hm with h | h
      · exact h
      · obtain ⟨y, _, e⟩ := List.mem_map.mp h; cases e
    obtain ⟨i, hi, e⟩ := List.getElem_of_mem hm
    have hi1 : i < xs.length := by simp at hi; omega
    have hi2 : i < vs.length := by simp at hi; omega
    have h1 : xs[i]? = some x := by
      have h : xs[i] = x := by
        have := congrArg Prod.fst e
        rw [List.getElem_zip] at this
        exact this
      rw [← h]; exact List.getElem?_eq_getElem hi1
    have h2 : vs[i]? = some v := by
      have h : some vs[i] = some v := by
        have := congrArg Prod.snd e
        rw [List.getElem_zip] at this
        simpa using this
      rw [← h]; exact List.getElem?_eq_getElem hi2
    obtain ⟨v', h3, h4⟩ := hv.get h2
    refine ⟨v', ?_, h4⟩
    rw [lookup_reverse_nodup, lookup_zip nx h1 h3]
    rw [List.map_fst_zip]
    · exact nx
    · simp; omega
noncomputable abbrev kFn (P : AV → Own → Prop) : SP := fun fl _ H' => match fl with | .ret v => P v H' | .next => P .none H' | _ => False
theorem AF_def {k : Nat} {f : Addr} {name qual : Str} {params : Arguments} {body : List Stmt} {scope : Scope} {cl : List (Str × Addr)} {dV kV doc pm cdv ct oc : Value} {an od : Option Addr} {osl : Array (Option Value)}
    {args ds : List AV} {H : Own} {P : AV → Own → Prop} (xs ys : List String) (l0 : Loc)
    (hK : ∀ w, (KF w).lookup f = some ⟨oc, od, .func (fnX name qual params body scope cl dV kV doc pm an cdv ct), osl⟩) (hcd : ∀ w, codeIn (KF w) cdv qual = true)
    (hl : (args ++ ds).length = xs.length) (nd : (xs ++ ys).Nodup)
    (hb : ∀ (w : World) (s : Shared) (args' : List Value), args'.length = args.length → (KF w).In s.heap → ∃ ds', BindsTo s (fnX name qual params body scope cl dV kV doc pm an cdv ct) ⟨args', []⟩ ((xs.map Str.ofString).zip (args' ++ ds')) ∧ ∀ B N, VRs B N ds ds')
    (hloc : ((xs ++ ys).all (locOk scope)) = true)
    (h : ∀ (w : World) (os : OsState) (base : Heap) (outer : List Env) (A₀ A : Around) (h₀ : Heap) (L : Addr) (X Y : Led), let c : Cx := ⟨w, os, base, outer, A₀, A, h₀, L, qual, scope, f, cdv, cl, X, Y⟩; c.Good k → ASs c c.env body l0 H (kFn P))
    (hcell : ∀ x ∈ scope.names, x.2 ≠ .cell) (hl0 : l0 = loc0 xs (args ++ ds) ys := by rfl) (hco : scope.isCoroutine = false := by rfl) (hgen : scope.isGenerator = false := by rfl) (hk : scope.kind = .function := by rfl) :
    AF (k + 1) (.ref f) args H P := by
  subst hl0
  intro c A loc T s args' G hA hR R hI
  obtain ⟨N, es, m, R⟩ := R
  obtain ⟨mg, mb, top⟩ := G.top
  obtain ⟨TL, hT1, hT2⟩ := LocR.temps R.loc.is
  have KS : (KF c.w).In s.heap := G.K.keeps R.F.keep
  obtain ⟨ds', hbind, hds⟩ := hb c.w s args' hI.length KS
  have hvs : VRs c.base N (args ++ ds) (args' ++ ds') := (hI.vrs R.tmp).append (hds _ _)
  refine callX_plain (binds := (xs.map Str.ofString).zip (args' ++ ds')) G.below R.F R.nw top.nolimit hA rfl G.kind (KS _ _ (hK c.w)) rfl (codeRec_of KS (hcd c.w)) (by have := hR.depth; show A.depth < 1000; omega) hbind (fun y hy => ?_) (fun g L' h₁ FG F' N' B' st hlt => ?_) hcell hco hgen hk
  · obtain ⟨x, hx, e⟩ := List.mem_map.mp (List.of_mem_zip hy).1
    rw [← e]
    have := List.all_eq_true.mp hloc x (List.mem_append_left _ hx)
    exact of_decide_eq_true (Bool.and_eq_true_iff.mp this).1
  · let c' : Cx := { w := c.w, os := c.os, base := c.base, outer := c.env :: c.outer, A₀ := A, A := A.deeper (envX qual scope L' f cdv cl), h₀ := g, L := L', nm := qual, scope := scope, f := f, cd := cdv, cells := cl, X := c.X, Y := c.Y }
    have G' : c'.Good k := ⟨B', by show (A.deeper _).frames = _; unfold Around.deeper; rw [hA]; rfl, hk, ⟨by show A.depth + 1 + 10 * k < 900; have := hR.depth; omega, by show A.units + 3 + 40 * k < 9000; have := hR.units; omega, hR.handled⟩,
      G.K.keeps st, ⟨mg, mb, top.keeps st⟩⟩
    have R' : RepW c' (loc0 xs (args ++ ds) ys) H (T ++ TL) { s with heap := h₁, toks := s.toks + ((xs.map Str.ofString).zip (args' ++ ds')).length } N es (fun y => ((xs.map Str.ofString).zip (args' ++ ds')).reverse.lookup y) := by
      refine ⟨F', N', R.nd, R.own, R.yk, fun p hp => ?_, locR0 hvs hl nd hloc, R.gens, R.os⟩
      rcases List.mem_append.mp hp with hp | hp
      · exact R.tmp p hp
      · exact hT1 p hp
    refine wpAny_mono (h _ _ _ _ _ _ _ _ _ _ G' (T ++ TL) _ R'.rep) (fun fl s' hp => ?_) fun _ _ e => e.elim
    obtain ⟨fl', loc', H', T', hf, R2, hp⟩ := hp
    obtain ⟨N2, es2, m2, R2⟩ := R2
    have back : ∀ (v : AV) (v' : Value), VR c.base N2 v v' → (∀ p ∈ T ++ TL, VR c.base N2 p.1 p.2) → P v H' → LeaveK c.h₀ c.L m g (RP c loc T P) v' s' := fun v v' hv ht hP => by
      refine leaveK_ R2.F R2.nw fun F3 N3 => ?_
      refine ⟨v, H', ⟨N2, es2, m, F3, N3, R2.nd, R2.own, R2.yk, fun p hp => ?_, ⟨R.loc.nd, R.loc.kd, fun x u hm => ?_⟩, R2.gens, R2.os⟩, hP⟩
      · rcases List.mem_cons.mp hp with rfl | hp
        · exact hv
        · exact ht p (List.mem_append_left _ hp)
      · obtain ⟨u', e1, e2⟩ := hT2 x u hm
        exact ⟨u', e1, ht _ (List.mem_append_right _ e2)⟩
    cases hf with
    | next => exact back .none .none .none R2.tmp hp
    | brk => exact hp.elim
    | cont => exact hp.elim
    | @ret v v' => exact back v v' (R2.tmp (v, v') (.head _)) (fun p hp => R2.tmp p (.tail _ hp)) hp
end
section
theorem bd {α : Type} [DecidableEq α] (a b : α) : (a == b) = decide (a = b) := rfl
theorem VR.val_inv {B : Heap} {N : Led} {v u : Value} (h : VR B N (.val v) u) : u = v := by
  exact h.inv
section
variable {c : Cx} {env : Env} {loc loc' : Loc} {H H' : Own} {P : AV → Own → Prop} {T : Tmp} {s : Shared} {v' : Value} {i : Int} {x : Str} {b : Bool} {a : Addr} {l : List AV} {k : Nat} {pos : Pos}
theorem Rep.isInt (R : Rep c loc H T s) (m : (.int i, v') ∈ T) : ∃ t, v' = .int i t := by
  obtain ⟨N, es, mm, R⟩ := R
  exact (R.tmp _ m).inv
theorem Rep.isStr (R : Rep c loc H T s) (m : (.str x, v') ∈ T) : ∃ t, v' = .str x t := by
  obtain ⟨N, es, mm, R⟩ := R
  exact (R.tmp _ m).inv
theorem Rep.isBool (R : Rep c loc H T s) (m : (.bool b, v') ∈ T) : v' = .bool b := by
  obtain ⟨N, es, mm, R⟩ := R
  exact (R.tmp _ m).inv
theorem Rep.isNone (R : Rep c loc H T s) (m : (.none, v') ∈ T) : v' = .none := by
  obtain ⟨N, es, mm, R⟩ := R
  exact (R.tmp _ m).inv
theorem Rep.isRef (R : Rep c loc H T s) (m : (.ref a, v') ∈ T) : v' = .ref a := by
  obtain ⟨N, es, mm, R⟩ := R
  exact (R.tmp _ m).inv
theorem Rep.isVal {v : Value} (R : Rep c loc H T s) (m : (.val v, v') ∈ T) : v' = v := by
  obtain ⟨N, es, mm, R⟩ := R
  exact (R.tmp _ m).val_inv
theorem Rep.isTup (R : Rep c loc H T s) (m : (.tup l, v') ∈ T) : ∃ t N vs, v' = .ref t ∧ IsTup s.heap t vs.toArray ∧ VRs c.base N l vs := by
  obtain ⟨N, es, mm, R⟩ := R
  obtain ⟨a, vs, rfl, h, r⟩ := (R.tmp _ m).tup_inv
  exact ⟨_, N, _, rfl, ⟨_, (R.nw _ (List.mem_append_left _ h)).1, rfl, 0, rfl⟩, r⟩
theorem Rep.isLst (R : Rep c loc H T s) (m : (.lst l, v') ∈ T) : ∃ t N vs, v' = .ref t ∧ s.heap.IsList t vs.toArray ∧ VRs c.base N l vs := by
  obtain ⟨N, es, mm, R⟩ := R
  obtain ⟨a, vs, n, rfl, h, r⟩ := (R.tmp _ m).lst_inv
  exact ⟨_, N, _, rfl, ⟨_, (R.nw _ (List.mem_append_left _ h)).1, rfl, _, rfl⟩, r⟩
theorem AE_int (h : P (.int i) H) {kk : Nat} : AE c env (.Constant (.int i) kk pos) loc H P := fun T s R => wpAny_Constant_int ⟨_, _, R.tok.int i _, h⟩
theorem AE_str (h : P (.str x) H) {kk : Nat} : AE c env (.Constant (.str x) kk pos) loc H P := fun T s R => wpAny_Constant_str ⟨_, _, R.tok.str x _, h⟩
theorem AE_bool (h : P (.bool b) H) {kk : Nat} : AE c env (.Constant (.bool b) kk pos) loc H P := fun T s R => wpAny_Constant_bool ⟨_, _, R.bool b, h⟩
theorem AE_none (h : P .none H) {kk : Nat} : AE c env (.Constant .none kk pos) loc H P := fun T s R => wpAny_Constant_none ⟨_, _, R.none, h⟩
theorem AE_local {y : String} {v : AV} (G : c.Good k) (hm : (y, some v) ∈ loc) (h : P v H) : AE c c.env (.Name (Str.ofString y) pos) loc H P := fun T s R => by
  obtain ⟨N, es, m, R⟩ := R
  obtain ⟨v', e, hv⟩ := R.loc.is _ _ hm
  have q := R.loc.kd y (List.mem_map.mpr ⟨_, hm, rfl⟩)
  obtain ⟨q1, q2⟩ := Bool.and_eq_true_iff.mp q
  exact nameX_L (cl := c.cells) R.F e ⟨v, H, (R.put hv).rep, h⟩ G.kind (of_decide_eq_true q1) (by simpa using q2)
theorem AE_cell {y : String} {v : AV} {ca : Addr} (G : c.Good k) (hc : c.cells.lookup (Str.ofString y) = some ca) (hm : (ca, AO.cell (some v)) ∈ H) (hk : c.scope.names.lookup (Str.ofString y) = some .cell) (h : P v H)
    (hd : (Str.ofString y == ("__debug__" : Str)) = false := by decide) : AE c c.env (.Name (Str.ofString y) pos) loc H P := fun T s R => by
  obtain ⟨N, es, m, R⟩ := R
  obtain ⟨e, ho, he⟩ := R.get hm
  obtain ⟨ob, v1, rfl, hd0, hv⟩ := ho.cell_inv
  exact nameX_C (cl := c.cells) R.nw hc (he _ (.head _)) hd0 ⟨v, H, (R.put hv).rep, h⟩ G.kind hk hd
theorem AE_global {y : String} {v : Value} {av : AV} (G : c.Good k) (hn : ∀ w, nsIn (KF w) mainGlobals (Str.ofString y) = some (some v)) (hk : c.scope.names.lookup (Str.ofString y) = some .globalImplicit) (hv : ∀ B N, VR B N av v) (h : P av H)
    (hd : (Str.ofString y == ("__debug__" : Str)) = false := by decide) : AE c c.env (.Name (Str.ofString y) pos) loc H P := fun T s R => by
  obtain ⟨N, es, m, R⟩ := R
  obtain ⟨mg, mb, top⟩ := G.top
  exact Name_function_global G.kind hk (loadGlobal_global (env := c.env) (top.g.keeps R.F.keep) (mg_of G.K top.g (hn c.w)) ⟨av, H, (R.put (hv _ _)).rep, h⟩) hd
theorem AE_builtin {y : String} {v : Value} (G : c.Good k) (hn : ∀ w, nsIn (KF w) mainGlobals (Str.ofString y) = some none) (hb : bootBuiltins (Str.ofString y) = some v) (hne : Str.ofString y ≠ "__name__") (hk : c.scope.names.lookup (Str.ofString y) = some .globalImplicit) (h : P (.val v) H)
    (hd : (Str.ofString y == ("__debug__" : Str)) = false := by decide) : AE c c.env (.Name (Str.ofString y) pos) loc H P := fun T s R => by
  obtain ⟨N, es, m, R⟩ := R
  obtain ⟨mg, mb, top⟩ := G.top
  exact Name_function_global G.kind hk (loadGlobal_builtin (env := c.env) (top.g.keeps R.F.keep) (mg_none_of G.K top.g (hn c.w)) (top.b.keeps R.F.keep) ((top.builtins _ hne).trans hb) ⟨.val v, H, (R.put (.val v)).rep, h⟩) hd
noncomputable def OpB (c : Cx) (op : Operator) (v1 v2 : AV) (loc : Loc) (H : Own) (P : AV → Own → Prop) : Prop := ∀ T s v1' v2', Rep c loc H T s → (v1, v1') ∈ T → (v2, v2') ∈ T → W c T (binaryOp op v1' v2') loc P s
noncomputable def OpI (c : Cx) (op : Operator) (v1 v2 : AV) (loc : Loc) (H : Own) (P : AV → Own → Prop) : Prop := ∀ T s v1' v2', Rep c loc H T s → (v1, v1') ∈ T → (v2, v2') ∈ T → W c T (inplaceOp op v1' v2') loc P s
noncomputable def OpC (c : Cx) (op : CmpOp) (v1 v2 : AV) (loc : Loc) (H : Own) (P : AV → Own → Prop) : Prop := ∀ T s v1' v2', Rep c loc H T s → (v1, v1') ∈ T → (v2, v2') ∈ T → W c T (compareOp op v1' v2') loc P s
noncomputable def OpU (c : Cx) (op : UnaryOp) (v1 : AV) (loc : Loc) (H : Own) (P : AV → Own → Prop) : Prop := ∀ T s v1', Rep c loc H T s → (v1, v1') ∈ T → W c T (unaryOp op v1') loc P s
noncomputable def OpT (c : Cx) (v1 : AV) (loc : Loc) (H : Own) (P : Bool → Own → Prop) : Prop := ∀ T s v1', Rep c loc H T s → (v1, v1') ∈ T → wpAny (model pg c.w) c.A (truthy v1') (BOut c loc T P) EF s
noncomputable def OpG (c : Cx) (v1 v2 : AV) (loc : Loc) (H : Own) (P : AV → Own → Prop) : Prop := ∀ T s v1' v2', Rep c loc H T s → (v1, v1') ∈ T → (v2, v2') ∈ T → W c T (getItem v1' v2') loc P s
noncomputable def OpS (c : Cx) (v1 v2 v3 : AV) (loc : Loc) (H : Own) (P : Own → Prop) : Prop := ∀ T s v1' v2' v3', Rep c loc H T s → (v1, v1') ∈ T → (v2, v2') ∈ T → (v3, v3') ∈ T → wpAny (model pg c.w) c.A (setItem v1' v2' v3') (fun _ s' => HOut c loc T P s') EF s
theorem W.sub {t : Sem Value} {T' : Tmp} (h : W c T t loc P s) (hs : ∀ p ∈ T', p ∈ T) : W c T' t loc P s :=
  wpAny_mono h (fun v' s' ⟨v, H, R, p⟩ => ⟨v, H, R.sub fun q hq => by rcases List.mem_cons.mp hq with rfl | hq; exact .head _; exact .tail _ (hs q hq), p⟩) fun _ _ e => e
noncomputable abbrev kOpB (c : Cx) (loc : Loc) (op : Operator) (v1 : AV) (P : AV → Own → Prop) : AV → Own → Prop := fun v2 H2 => OpB c op v1 v2 loc H2 P
noncomputable abbrev kB (c : Cx) (env : Env) (loc : Loc) (e2 : Expr) (op : Operator) (P : AV → Own → Prop) : AV → Own → Prop := fun v1 H1 => AE c env e2 loc H1 (kOpB c loc op v1 P)
noncomputable abbrev kOpC (c : Cx) (loc : Loc) (op : CmpOp) (v1 : AV) (P : AV → Own → Prop) : AV → Own → Prop := fun v2 H2 => OpC c op v1 v2 loc H2 P
noncomputable abbrev kC (c : Cx) (env : Env) (loc : Loc) (e2 : Expr) (op : CmpOp) (P : AV → Own → Prop) : AV → Own → Prop := fun v1 H1 => AE c env e2 loc H1 (kOpC c loc op v1 P)
noncomputable abbrev kOpU (c : Cx) (loc : Loc) (op : UnaryOp) (P : AV → Own → Prop) : AV → Own → Prop := fun v1 H1 => OpU c op v1 loc H1 P
noncomputable abbrev kIf (c : Cx) (env : Env) (loc : Loc) (e1 e2 : Expr) (P : AV → Own → Prop) : Bool → Own → Prop := fun b H1 => (b = true → AE c env e1 loc H1 P) ∧ (b = false → AE c env e2 loc H1 P)
noncomputable abbrev kOpT (c : Cx) (loc : Loc) (P : Bool → Own → Prop) : AV → Own → Prop := fun v1 H1 => OpT c v1 loc H1 P
noncomputable abbrev kBool (P : Bool → Own → Prop) : AV → Own → Prop := fun v H => ∃ b, v = .bool b ∧ P b H
noncomputable abbrev kNot (P : Bool → Own → Prop) : Bool → Own → Prop := fun b H => P (!b) H
noncomputable abbrev kAnd (c : Cx) (env : Env) (loc : Loc) (es : List Expr) (pos : Pos) (P : Bool → Own → Prop) : Bool → Own → Prop := fun b H1 => (b = true → AB c env (.BoolOp .And es pos) loc H1 P) ∧ (b = false → P false H1)
noncomputable abbrev kOr (c : Cx) (env : Env) (loc : Loc) (es : List Expr) (pos : Pos) (P : Bool → Own → Prop) : Bool → Own → Prop := fun b H1 => (b = false → AB c env (.BoolOp .Or es pos) loc H1 P) ∧ (b = true → P true H1)
theorem AE_binop {e1 e2 : Expr} {op : Operator} (h : AE c env e1 loc H (kB c env loc e2 op P)) : AE c env (.BinOp e1 op e2 pos) loc H P := fun T s R =>
  wpAny_BinOp (thenW (h T s R) fun v1' s1 v1 H1 R1 h1 => thenW (h1 _ _ R1) fun v2' s2 v2 H2 R2 h2 => (h2 _ _ _ _ R2 (.tail _ (.head _)) (.head _)).sub fun p hp => .tail _ (.tail _ hp))
theorem AE_compare {e1 e2 : Expr} {op : CmpOp} (h : AE c env e1 loc H (kC c env loc e2 op P))
    (hm : behindInMarks op e2 = false := by with_unfolding_all rfl) : AE c env (.Compare e1 [op] [e2] pos) loc H P := fun T s R =>
  wpAny_Compare1 (thenW (h T s R) fun v1' s1 v1 H1 R1 h1 => thenW (h1 _ _ R1) fun v2' s2 v2 H2 R2 h2 => (h2 _ _ _ _ R2 (.tail _ (.head _)) (.head _)).sub fun p hp => .tail _ (.tail _ hp)) hm
theorem AE_unary {e1 : Expr} {op : UnaryOp} (h : AE c env e1 loc H (kOpU c loc op P)) : AE c env (.UnaryOp op e1 pos) loc H P := fun T s R =>
  UnaryOp_ (thenW (h T s R) fun v1' s1 v1 H1 R1 h1 => (h1 _ _ _ R1 (.head _)).sub fun p hp => .tail _ hp)
theorem AE_ifexp {t e1 e2 : Expr} (h : AB c env t loc H (kIf c env loc e1 e2 P)) : AE c env (.IfExp t e1 e2 pos) loc H P := fun T s R =>
  IfExp_ (thenB (h T s R) fun b s1 H1 R1 ⟨h1, h2⟩ => by
    cases b with
    | true => rw [if_pos rfl]; exact h1 rfl _ _ R1
    | false => rw [if_neg Bool.false_ne_true]; exact h2 rfl _ _ R1)
theorem AE_sub {e1 e2 : Expr} (h : AE c env e1 loc H fun v1 H1 => AE c env e2 loc H1 fun v2 H2 => ∀ T s v1' v2', Rep c loc H2 T s → (v1, v1') ∈ T → (v2, v2') ∈ T → W c T (subscriptTail e1 e2 v1' v2') loc P s) : AE c env (.Subscript e1 e2 pos) loc H P := fun T s R =>
  Subscript_ (thenW (h T s R) fun v1' s1 v1 H1 R1 h1 => thenW (h1 _ _ R1) fun v2' s2 v2 H2 R2 h2 => (h2 _ _ _ _ R2 (.tail _ (.head _)) (.head _)).sub fun p hp => .tail _ (.tail _ hp))
theorem AB_plain {e : Expr} {P : Bool → Own → Prop} (h : AE c env e loc H (kOpT c loc P))
    (hp : PySem.isTrue e env (eval e env) = (do let v ← eval e env; standAt e.pos; holding [v] (truthy v)) := by with_unfolding_all rfl) : AB c env e loc H P := fun T s R =>
  isTrue_plain (thenW (h T s R) fun v1' s1 v1 H1 R1 h1 => thenB (h1 _ _ _ R1 (.head _)) fun b s2 H2 R2 p => ⟨H2, R2.sub fun q hq => .tail _ hq, p⟩) hp
theorem AB_compare {e1 e2 : Expr} {op : CmpOp} {P : Bool → Own → Prop} (h : AE c env e1 loc H (kC c env loc e2 op (kBool P)))
    (hm : behindInMarks op e2 = false := by with_unfolding_all rfl) : AB c env (.Compare e1 [op] [e2] pos) loc H P := fun T s R =>
  wpAny_isTrue_Compare1 (thenW (h T s R) fun v1' s1 v1 H1 R1 h1 => thenW (h1 _ _ R1) fun v2' s2 v2 H2 R2 h2 => thenW (h2 _ _ _ _ R2 (.tail _ (.head _)) (.head _)) fun v' s3 v H3 R3 ⟨b, e, p⟩ => by
    subst e
    rw [R3.isBool (.head _)]
    exact wpAny_truthy_bool ⟨H3, R3.sub fun q hq => .tail _ (.tail _ (.tail _ hq)), p⟩) hm
theorem AB_not {e : Expr} {P : Bool → Own → Prop} (h : AB c env e loc H (kNot P)) : AB c env (.UnaryOp .Not e pos) loc H P := fun T s R =>
  wpAny_isTrue_Not (thenB (h T s R) fun b s1 H1 R1 p => ⟨H1, R1, p⟩)
theorem AB_and_nil {P : Bool → Own → Prop} (h : P true H) : AB c env (.BoolOp .And [] pos) loc H P := fun T s R => isTrue_and_nil ⟨H, R, h⟩
theorem AB_or_nil {P : Bool → Own → Prop} (h : P false H) : AB c env (.BoolOp .Or [] pos) loc H P := fun T s R => isTrue_or_nil ⟨H, R, h⟩
theorem AB_and {e : Expr} {es : List Expr} {P : Bool → Own → Prop} (h : AB c env e loc H (kAnd c env loc es pos P)) : AB c env (.BoolOp .And (e :: es) pos) loc H P := fun T s R =>
  isTrue_and (thenB (h T s R) fun b s1 H1 R1 ⟨h1, h2⟩ => by
    cases b with
    | true => rw [if_pos rfl]; exact h1 rfl _ _ R1
    | false => rw [if_neg Bool.false_ne_true]; exact ⟨H1, R1, h2 rfl⟩)
theorem AB_or {e : Expr} {es : List Expr} {P : Bool → Own → Prop} (h : AB c env e loc H (kOr c env loc es pos P)) : AB c env (.BoolOp .Or (e :: es) pos) loc H P := fun T s R =>
  isTrue_or (thenB (h T s R) fun b s1 H1 R1 ⟨h1, h2⟩ => by
    cases b with
    | false => first | (rw [if_neg Bool.false_ne_true]; exact h1 rfl _ _ R1) | (rw [if_pos rfl]; exact h1 rfl _ _ R1)
    | true => first | (rw [if_pos rfl]; exact ⟨H1, R1, h2 rfl⟩) | (rw [if_neg (by simp)]; exact ⟨H1, R1, h2 rfl⟩))
variable {j : Int}
theorem OpB_add (h : P (.int (i + j)) H) : OpB c .Add (.int i) (.int j) loc H P := fun T s v1' v2' R m1 m2 => by
  obtain ⟨t, rfl⟩ := R.isInt m1; obtain ⟨u, rfl⟩ := R.isInt m2
  exact add_int ⟨_, _, R.tok.int _ _, h⟩
theorem OpB_sub (h : P (.int (i - j)) H) : OpB c .Sub (.int i) (.int j) loc H P := fun T s v1' v2' R m1 m2 => by
  obtain ⟨t, rfl⟩ := R.isInt m1; obtain ⟨u, rfl⟩ := R.isInt m2
  exact sub_int ⟨_, _, R.tok.int _ _, h⟩
theorem OpB_mul (hok : IntMulOk i j) (h : P (.int (i * j)) H) : OpB c .Mult (.int i) (.int j) loc H P := fun T s v1' v2' R m1 m2 => by
  obtain ⟨t, rfl⟩ := R.isInt m1; obtain ⟨u, rfl⟩ := R.isInt m2
  exact mul_int ⟨_, _, R.tok.int _ _, h⟩ hok
theorem OpB_mod (hj : j ≠ 0) (h : P (.int (i.fmod j)) H) : OpB c .Mod (.int i) (.int j) loc H P := fun T s v1' v2' R m1 m2 => by
  obtain ⟨t, rfl⟩ := R.isInt m1; obtain ⟨u, rfl⟩ := R.isInt m2
  exact mod_int' hj ⟨_, _, R.tok.int _ _, h⟩
theorem OpB_div (hj : j ≠ 0) (hl : Builtin.divisionGoesByPylong i j = false) (h : P (.int (i.fdiv j)) H) : OpB c .FloorDiv (.int i) (.int j) loc H P := fun T s v1' v2' R m1 m2 => by
  obtain ⟨t, rfl⟩ := R.isInt m1; obtain ⟨u, rfl⟩ := R.isInt m2
  exact floordiv_int hj ⟨_, _, R.tok.int _ _, h⟩ (.inl hl)
theorem OpC_lt (h : P (.bool (decide (i < j))) H) : OpC c .Lt (.int i) (.int j) loc H P := fun T s v1' v2' R m1 m2 => by
  obtain ⟨t, rfl⟩ := R.isInt m1; obtain ⟨u, rfl⟩ := R.isInt m2
  exact lt_int ⟨_, _, R.bool _, h⟩
theorem OpC_gt (h : P (.bool (decide (j < i))) H) : OpC c .Gt (.int i) (.int j) loc H P := fun T s v1' v2' R m1 m2 => by
  obtain ⟨t, rfl⟩ := R.isInt m1; obtain ⟨u, rfl⟩ := R.isInt m2
  exact gt_int ⟨_, _, R.bool _, by simpa using h⟩
theorem OpC_le (h : P (.bool (decide (i ≤ j))) H) : OpC c .LtE (.int i) (.int j) loc H P := fun T s v1' v2' R m1 m2 => by
  obtain ⟨t, rfl⟩ := R.isInt m1; obtain ⟨u, rfl⟩ := R.isInt m2
  exact le_int ⟨_, _, R.bool _, h⟩
theorem OpC_ge (h : P (.bool (decide (j ≤ i))) H) : OpC c .GtE (.int i) (.int j) loc H P := fun T s v1' v2' R m1 m2 => by
  obtain ⟨t, rfl⟩ := R.isInt m1; obtain ⟨u, rfl⟩ := R.isInt m2
  exact ge_int ⟨_, _, R.bool _, by simpa using h⟩
theorem OpC_eq (h : P (.bool (decide (i = j))) H) : OpC c .Eq (.int i) (.int j) loc H P := fun T s v1' v2' R m1 m2 => by
  obtain ⟨t, rfl⟩ := R.isInt m1; obtain ⟨u, rfl⟩ := R.isInt m2
  exact eq_int ⟨_, _, R.bool _, by simpa [bd] using h⟩
theorem OpC_ne (h : P (.bool (!decide (i = j))) H) : OpC c .NotEq (.int i) (.int j) loc H P := fun T s v1' v2' R m1 m2 => by
  obtain ⟨t, rfl⟩ := R.isInt m1; obtain ⟨u, rfl⟩ := R.isInt m2
  exact ne_int ⟨_, _, R.bool _, by simpa [bne, bd] using h⟩
theorem OpI_add (h : P (.int (i + j)) H) : OpI c .Add (.int i) (.int j) loc H P := fun T s v1' v2' R m1 m2 => by
  obtain ⟨t, rfl⟩ := R.isInt m1; obtain ⟨u, rfl⟩ := R.isInt m2
  exact iadd_int ⟨_, _, R.tok.int _ _, h⟩
theorem OpI_sub (h : P (.int (i - j)) H) : OpI c .Sub (.int i) (.int j) loc H P := fun T s v1' v2' R m1 m2 => by
  obtain ⟨t, rfl⟩ := R.isInt m1; obtain ⟨u, rfl⟩ := R.isInt m2
  exact isub_int ⟨_, _, R.tok.int _ _, h⟩
theorem OpT_bool {P : Bool → Own → Prop} (h : P b H) : OpT c (.bool b) loc H P := fun T s v1' R m1 => by
  rw [R.isBool m1]; exact wpAny_truthy_bool ⟨_, R, h⟩
theorem OpT_str {P : Bool → Own → Prop} (hl : (x.length : Int) < 2 ^ 63) (h : P (decide (x.length ≠ 0)) H) : OpT c (.str x) loc H P := fun T s v1' R m1 => by
  obtain ⟨t, rfl⟩ := R.isStr m1
  refine SBL.truthy hl ⟨_, R.tok, ?_⟩
  have e : ((x.length : Int) != 0) = decide (x.length ≠ 0) := by
    rw [Bool.eq_iff_iff]; simp
  rw [e]; exact h
variable {y : Str}
theorem OpB_cat (hz : x.length + y.length ≤ sizeLine) (h : P (.str (x ++ y)) H) : OpB c .Add (.str x) (.str y) loc H P := fun T s v1' v2' R m1 m2 => by
  obtain ⟨t, rfl⟩ := R.isStr m1; obtain ⟨u, rfl⟩ := R.isStr m2
  exact add_str (fun t' tk => ⟨_, _, R.tok.str _ _, h⟩) hz
theorem OpB_rep (hok : MulOk x i) (h : P (.str (Txt.mul x i)) H) : OpB c .Mult (.str x) (.int i) loc H P := fun T s v1' v2' R m1 m2 => by
  obtain ⟨t, rfl⟩ := R.isStr m1; obtain ⟨u, rfl⟩ := R.isInt m2
  exact SB.mul hok fun t' tk => ⟨_, _, R.tok.str _ _, h⟩
theorem OpC_seq (h : P (.bool (decide (x = y))) H) : OpC c .Eq (.str x) (.str y) loc H P := fun T s v1' v2' R m1 m2 => by
  obtain ⟨t, rfl⟩ := R.isStr m1; obtain ⟨u, rfl⟩ := R.isStr m2
  exact eq_str ⟨_, _, R.bool _, by simpa [bd] using h⟩
theorem OpC_sne (h : P (.bool (!decide (x = y))) H) : OpC c .NotEq (.str x) (.str y) loc H P := fun T s v1' v2' R m1 m2 => by
  obtain ⟨t, rfl⟩ := R.isStr m1; obtain ⟨u, rfl⟩ := R.isStr m2
  exact ne_str ⟨_, _, R.bool _, by simpa [bne, bd] using h⟩
end
end
section
section
variable {c : Cx} {env : Env} {loc loc' : Loc} {H H' : Own} {P : SP} {T : Tmp} {s : Shared} {v' : Value} {i : Int} {x : Str} {b : Bool} {a : Addr} {l : List AV} {k : Nat} {pos : Pos}
noncomputable abbrev kSeq (c : Cx) (env : Env) (rest : List Stmt) (P : SP) : SP := fun f l H1 => match f with | .next => ASs c env rest l H1 P | f => P f l H1
noncomputable abbrev kIfS (c : Cx) (env : Env) (loc : Loc) (body orelse : List Stmt) (P : SP) : Bool → Own → Prop := fun b H1 => (b = true → ASs c env body loc H1 P) ∧ (b = false → ASs c env orelse loc H1 P)
noncomputable abbrev kRet (loc : Loc) (P : SP) : AV → Own → Prop := fun v H1 => P (.ret v) loc H1
noncomputable abbrev kExpr (loc : Loc) (P : SP) : AV → Own → Prop := fun _ H1 => P .next loc H1
noncomputable abbrev kNext (P : SP) : Loc → Own → Prop := fun l H2 => P .next l H2
noncomputable abbrev kDone (loc : Loc) (P : SP) : Own → Prop := fun H4 => P .next loc H4
theorem ASs_nil (h : P .next loc H) : ASs c env [] loc H P := fun T s R => wpAny_execs_nil ⟨.next, loc, H, T, .next, R, h⟩
theorem ASs_cons {st : Stmt} {rest : List Stmt} (h : AS c env st loc H (kSeq c env rest P)) : ASs c env (st :: rest) loc H P := fun T s R =>
  wpAny_execs_cons (thenF (h T s R) fun f' s1 f l H1 T1 hf R1 h1 => by
    cases hf with
    | next => exact h1 _ _ R1
    | brk => exact ⟨_, _, _, _, .brk, R1, h1⟩
    | cont => exact ⟨_, _, _, _, .cont, R1, h1⟩
    | ret => exact ⟨_, _, _, _, .ret, R1, h1⟩)
theorem ASs_cut {st : Stmt} {rest : List Stmt} (Q : Loc → Own → Prop) (h : AS c env st loc H fun f l H1 => f = .next ∧ Q l H1) (kk : ∀ l H1, Q l H1 → ASs c env rest l H1 P) : ASs c env (st :: rest) loc H P :=
  ASs_cons fun T s R => thenF (h T s R) fun f' s1 f l H1 T1 hf R1 ⟨e, hq⟩ => by
    subst e
    exact ⟨_, _, _, _, hf, R1, kk l H1 hq⟩
theorem AS_if {t : Expr} {body orelse : List Stmt} (h : AB c env t loc H (kIfS c env loc body orelse P)) : AS c env (.If t body orelse pos) loc H P := fun T s R =>
  wpAny_If (thenB (h T s R) fun b s1 H1 R1 ⟨h1, h2⟩ => by
    cases b with
    | true => rw [if_pos rfl]; exact h1 rfl _ _ R1
    | false => rw [if_neg Bool.false_ne_true]; exact h2 rfl _ _ R1)
theorem AS_return {e : Expr} (h : AE c env e loc H (kRet loc P)) : AS c env (.Return (some e) pos) loc H P := fun T s R =>
  wpAny_Return_some (thenW (h T s R) fun v' s1 v H1 R1 h1 => ⟨_, _, _, _, .ret, R1, h1⟩)
theorem AS_return0 (h : P (.ret .none) loc H) : AS c env (.Return none pos) loc H P := fun T s R => wpAny_Return_none ⟨_, _, _, _, .ret, R.none, h⟩
theorem AS_break (h : P .brk loc H) : AS c env (.Break pos) loc H P := fun T s R => wpAny_bind (wpAny_standAt (wpAny_pure ⟨_, _, _, _, .brk, R, h⟩))
theorem AS_continue (h : P .cont loc H) : AS c env (.Continue pos) loc H P := fun T s R => wpAny_bind (wpAny_standAt (wpAny_pure ⟨_, _, _, _, .cont, R, h⟩))
theorem AS_expr {e : Expr} (h : AE c env e loc H (kExpr loc P)) (hi : interactive env = false := by with_unfolding_all rfl) (hs : swapsWith e none pos.line env = pure false := by with_unfolding_all rfl) : AS c env (.Expr e pos) loc H P := fun T s R =>
  wpAny_Expr_any (thenW (h T s R) fun v' s1 v H1 R1 h1 => ⟨_, _, _, _, .next, R1.sub fun p hp => .tail _ hp, h1⟩) hi hs
noncomputable def St1 (c : Cx) (env : Env) (y : Str) (v : AV) (loc : Loc) (H : Own) (Q : Loc → Own → Prop) : Prop := ∀ T s v', Rep c loc H T s → (v, v') ∈ T →
  wpAny (model pg c.w) c.A (storeName env y v') (fun _ s' => LOut c T Q s') EF s
theorem St1_local {y : String} {v : AV} {Q : Loc → Own → Prop} (G : c.Good k) (U : SetL y v loc loc') (h : Q loc' H) : St1 c c.env (Str.ofString y) v loc H Q := fun T s v' R m => by
  obtain ⟨N, es, mm, R⟩ := R
  have hy : y ∈ loc.map (·.1) := by
    clear R h
    induction U with
    | head => simp
    | tail _ ih => simp [ih]
  obtain ⟨q1, _⟩ := Bool.and_eq_true_iff.mp (R.loc.kd y hy)
  have hv := R.tmp _ m
  exact storeX_L (cl := c.cells) R.F R.nw (fun h' F' N' => ⟨loc', H, ⟨N, es, _, F', N', R.nd, R.own, R.yk, R.tmp, R.loc.set U hv, R.gens, R.os⟩, h⟩) G.kind (of_decide_eq_true q1)
noncomputable abbrev kAsg (c : Cx) (env : Env) (loc : Loc) (y : Str) (P : SP) : AV → Own → Prop := fun v H1 => St1 c env y v loc H1 (kNext P)
noncomputable abbrev kAug (c : Cx) (loc : Loc) (op : Operator) (v0 : AV) (P : AV → Own → Prop) : AV → Own → Prop := fun v H1 => OpI c op v0 v loc H1 P
noncomputable abbrev kSet1 (c : Cx) (loc : Loc) (v v1 : AV) (P : SP) : AV → Own → Prop := fun v2 H3 => OpS c v1 v2 v loc H3 (kDone loc P)
noncomputable abbrev kSet2 (c : Cx) (env : Env) (loc : Loc) (e2 : Expr) (v : AV) (P : SP) : AV → Own → Prop := fun v1 H2 => AE c env e2 loc H2 (kSet1 c loc v v1 P)
noncomputable abbrev kSet3 (c : Cx) (env : Env) (loc : Loc) (e1 e2 : Expr) (P : SP) : AV → Own → Prop := fun v H1 => AE c env e1 loc H1 (kSet2 c env loc e2 v P)
noncomputable abbrev kAgs5 (c : Cx) (loc : Loc) (v1 v2 : AV) (P : SP) : AV → Own → Prop := fun u H5 => OpS c v1 v2 u loc H5 (kDone loc P)
noncomputable abbrev kAgs3 (c : Cx) (env : Env) (loc : Loc) (e : Expr) (op : Operator) (v1 v2 : AV) (P : SP) : AV → Own → Prop := fun v0 H3 => AE c env e loc H3 (kAug c loc op v0 (kAgs5 c loc v1 v2 P))
noncomputable abbrev kAgs2 (c : Cx) (env : Env) (loc : Loc) (e : Expr) (op : Operator) (v1 : AV) (P : SP) : AV → Own → Prop := fun v2 H2 => OpG c v1 v2 loc H2 (kAgs3 c env loc e op v1 v2 P)
noncomputable abbrev kAgs1 (c : Cx) (env : Env) (loc : Loc) (e2 e : Expr) (op : Operator) (P : SP) : AV → Own → Prop := fun v1 H1 => AE c env e2 loc H1 (kAgs2 c env loc e op v1 P)
theorem AS_assign {y : String} {e : Expr} {p1 : Pos} (h : AE c env e loc H (kAsg c env loc (Str.ofString y) P))
    (hs : swapsWith e (some (.Name (Str.ofString y) p1)) pos.line env = pure false := by with_unfolding_all rfl) : AS c env (.Assign [.Name (Str.ofString y) p1] e pos) loc H P := fun T s R =>
  wpAny_Assign_Name (thenW (h T s R) fun v' s1 v H1 R1 h1 => thenL (h1 _ _ _ R1 (.head _)) fun _ s2 l H2 R2 h2 => ⟨_, _, _, _, .next, R2.sub fun p hp => .tail _ hp, h2⟩) hs
theorem AS_aug {y : String} {v0 : AV} {e : Expr} {op : Operator} {p1 : Pos} (G : c.Good k) (hm : (y, some v0) ∈ loc) (h : AE c c.env e loc H (kAug c loc op v0 (kAsg c c.env loc (Str.ofString y) P))) :
    AS c c.env (.AugAssign (.Name (Str.ofString y) p1) op e pos) loc H P := fun T s R => by
  refine wpAny_AugAssign_Name ?_
  obtain ⟨N, es, m, R⟩ := R
  obtain ⟨v0', e0, hv0⟩ := R.loc.is _ _ hm
  obtain ⟨q1, _⟩ := Bool.and_eq_true_iff.mp (R.loc.kd y (List.mem_map.mpr ⟨_, hm, rfl⟩))
  refine wpAny_loadName_local (env := c.env) G.kind (of_decide_eq_true q1) R.F.ns e0 ?_
  exact thenW (h _ _ (R.put hv0).rep) fun v' s1 v H1 R1 h1 => thenW (h1 _ _ _ _ R1 (.tail _ (.head _)) (.head _)) fun u' s2 u H2 R2 h2 => thenL (h2 _ _ _ R2 (.head _)) fun _ s3 l H3 R3 h3 => ⟨_, _, _, _, .next, R3.sub fun p hp => .tail _ (.tail _ (.tail _ hp)), h3⟩
theorem AS_setitem {e1 e2 e : Expr} {p1 : Pos} (h : AE c env e loc H (kSet3 c env loc e1 e2 P))
    (hs : swapsWith e (some (.Subscript e1 e2 p1)) pos.line env = pure false := by with_unfolding_all rfl) : AS c env (.Assign [.Subscript e1 e2 p1] e pos) loc H P := fun T s R =>
  wpAny_Assign_Subscript (thenW (h T s R) fun v' s1 v H1 R1 h1 => thenW (h1 _ _ R1) fun v1' s2 v1 H2 R2 h2 => thenW (h2 _ _ R2) fun v2' s3 v2 H3 R3 h3 => thenH (h3 _ _ _ _ _ R3 (.tail _ (.head _)) (.head _) (.tail _ (.tail _ (.head _)))) fun _ s4 H4 R4 h4 => ⟨_, _, _, _, .next, R4.sub fun p hp => .tail _ (.tail _ (.tail _ hp)), h4⟩) hs
theorem AS_augsub {e1 e2 e : Expr} {op : Operator} {p1 : Pos} (h : AE c env e1 loc H (kAgs1 c env loc e2 e op P))
    (hs : ∀ (ov iv new : Value), augStore e2 ov iv new = (do holding [new, ov, iv] (setItem ov iv new); release [new, ov, iv] []; pure .next) := by intros; with_unfolding_all rfl) : AS c env (.AugAssign (.Subscript e1 e2 p1) op e pos) loc H P := fun T s R =>
  wpAny_AugAssign_SubscriptAny (thenW (h T s R) fun v1' s1 v1 H1 R1 h1 => thenW (h1 _ _ R1) fun v2' s2 v2 H2 R2 h2 => thenW (h2 _ _ _ _ R2 (.tail _ (.head _)) (.head _)) fun v0' s3 v0 H3 R3 h3 => thenW (h3 _ _ R3) fun v' s4 v H4 R4 h4 => thenW (h4 _ _ _ _ R4 (.tail _ (.head _)) (.head _)) fun u' s5 u H5 R5 h5 => thenH (h5 _ _ _ _ _ R5 (.tail _ (.tail _ (.tail _ (.tail _ (.head _))))) (.tail _ (.tail _ (.tail _ (.head _)))) (.head _)) fun _ s6 H6 R6 h6 => ⟨_, _, _, _, .next, R6.sub fun p hp => .tail _ (.tail _ (.tail _ (.tail _ (.tail _ hp)))), h6⟩) hs
theorem AS_setattr {e1 e : Expr} {attr : Str} {p1 : Pos} (h : AE c env e loc H fun v H1 => AE c env e1 loc H1 fun v1 H2 => ∀ T s v' v1', Rep c loc H2 T s → (v, v') ∈ T → (v1, v1') ∈ T →
      wpAny (model pg c.w) c.A (setAttr v1' attr v') (fun _ s' => HOut c loc T (kDone loc P) s') EF s)
    (hs : swapsWith e (some (.Attribute e1 attr p1)) pos.line env = pure false := by with_unfolding_all rfl) : AS c env (.Assign [.Attribute e1 attr p1] e pos) loc H P := fun T s R =>
  plainObj_wpAny_Assign_Attribute (thenW (h T s R) fun v' s1 v H1 R1 h1 => thenW (h1 _ _ R1) fun v1' s2 v1 H2 R2 h2 => thenH (h2 _ _ _ _ R2 (.tail _ (.head _)) (.head _)) fun _ s4 H4 R4 h4 => ⟨_, _, _, _, .next, R4.sub fun p hp => .tail _ (.tail _ hp), h4⟩) hs
theorem FlR.sub {T1 T2 : Tmp} (hs : ∀ p ∈ T2, p ∈ T1) {f : AFl} {f' : Flow} {T' : Tmp} (h : FlR T1 f f' T') : ∃ T'', FlR T2 f f' T'' ∧ ∀ p ∈ T'', p ∈ T' := by
  cases h with
  | next => exact ⟨_, .next, hs⟩
  | brk => exact ⟨_, .brk, hs⟩
  | cont => exact ⟨_, .cont, hs⟩
  | ret => exact ⟨_, .ret, fun p hp => by rcases List.mem_cons.mp hp with rfl | hp; exact .head _; exact .tail _ (hs p hp)⟩
theorem AS_while {t : Expr} {body orelse : List Stmt} (Inv : Nat → Loc → Own → Prop) (n : Nat) (h0 : Inv n loc H)
    (turn : ∀ n l H1, Inv n l H1 → AB c env t l H1 fun b H2 => (b = true → ASs c env body l H2 fun f l' H' => match f with | .next => ∃ m, m < n ∧ Inv m l' H' | .cont => ∃ m, m < n ∧ Inv m l' H' | .brk => P .next l' H' | .ret v => P (.ret v) l' H') ∧ (b = false → ASs c env orelse l H2 P)) :
    AS c env (.While t body orelse pos) loc H P := fun T s R => by
  refine wpAny_While ?_
  refine codeAny_whileLoop (fun n s => LOut c T (Inv n) s) (fun n s ⟨l, H1, R1, h1⟩ => ?_) n ⟨loc, H, R, h0⟩
  refine thenB (turn n l H1 h1 T s R1) fun b s2 H2 R2 ⟨ht, hf⟩ => ?_
  cases b with
  | true =>
    rw [if_pos rfl]
    refine thenF (ht rfl T s2 R2) fun f' s3 f l' H' T' hfl R3 h3 => ?_
    cases hfl with
    | next => obtain ⟨m, hm, hi⟩ := h3; exact ⟨m, hm, l', H', R3, hi⟩
    | cont => obtain ⟨m, hm, hi⟩ := h3; exact ⟨m, hm, l', H', R3, hi⟩
    | brk => exact ⟨_, _, _, _, .next, R3, h3⟩
    | ret => exact ⟨_, _, _, _, .ret, R3, h3⟩
  | false =>
    rw [if_neg Bool.false_ne_true]
    exact wpAny_mono (hf rfl T s2 R2) (fun f' s3 h3 => h3) fun _ _ e => e.elim
noncomputable abbrev Cx.wX (c : Cx) (X Y : Led) : Cx := { c with X := X, Y := Y }
theorem Cx.Good.wX {X Y : Led} (G : c.Good k) : (c.wX X Y).Good k := ⟨G.below, G.frames, G.kind, G.room, G.K, G.top⟩
theorem OwnR.tailX {B : Heap} {N X X' : Led} {H : Own} {es : Led} (h : OwnR B N X H es) : ∃ e₀, es = e₀ ++ X ∧ OwnR B N X' H (e₀ ++ X') := by
  induction h with
  | nil => exact ⟨[], rfl, .nil⟩
  | cons h _ ih =>
    obtain ⟨e₀, rfl, k⟩ := ih
    refine ⟨_ ++ e₀, by rw [List.append_assoc], ?_⟩
    rw [List.append_assoc]
    exact .cons h k
theorem RepW.lay {N es : Led} {m : Str → Option Value} (R : RepW c loc H T s N es m) (o : Obj) (hf : o.isFreed = false) :
    Rep (c.wX ((s.heap.objs.size, o) :: c.X) N) loc H T { s with heap := s.heap.push o } := by
  obtain ⟨e₀, rfl, k⟩ := R.own.tailX (X' := (s.heap.objs.size, o) :: c.X)
  have nw := News.push R.F R.nw o hf
  have hlt : ∀ p ∈ N ++ (e₀ ++ c.X), p.1 < s.heap.objs.size := fun p hp => Heap.lt_size (R.nw p hp).1
  refine ⟨N, e₀ ++ ((s.heap.objs.size, o) :: c.X), m, R.F.push o, fun p hp => nw p ?_, ?_, k, fun p hp => hp, R.tmp, R.loc, R.gens, R.os⟩
  · simp only [List.mem_append, List.mem_cons] at hp ⊢
    rcases hp with h | h | h | h <;> simp [h]
  · have e : (N ++ (e₀ ++ ((s.heap.objs.size, o) :: c.X))) = (N ++ e₀) ++ (s.heap.objs.size, o) :: c.X := by simp
    rw [e, List.map_append, List.map_cons]
    refine nodup_front ?_
    rw [← List.map_append]
    have nd := R.nd
    rw [← List.append_assoc] at nd hlt
    refine List.nodup_cons.mpr ⟨fun hm => ?_, nd⟩
    obtain ⟨p, hp, e⟩ := List.mem_map.mp hm
    exact absurd (hlt p hp) (by rw [e]; exact Nat.lt_irrefl _)
theorem Rep.turn {I : Addr} {o o' : Obj} {X Y : Led} {h' : Heap} {tk : Nat} (R : Rep (c.wX ((I, o) :: X) Y) loc H T s) (hk : ∀ b ob, b ≠ I → s.heap.get? b = some ob → h'.get? b = some ob) (ho : h'.get? I = some o') :
    Rep (c.wX ((I, o') :: X) Y) loc H T { s with heap := h', toks := tk } := by
  obtain ⟨N, es, m, R⟩ := R
  obtain ⟨e₀, rfl, k⟩ := R.own.tailX (X' := (I, o') :: X)
  have e1 : ∀ q : Obj, N ++ (e₀ ++ (I, q) :: X) = (N ++ e₀) ++ (I, q) :: X := fun q => by simp
  have nd := R.nd
  have nw := R.nw
  rw [show (c.wX ((I, o) :: X) Y).X = (I, o) :: X from rfl, e1 o] at nd nw
  obtain ⟨n1, n2⟩ := nodup_split nd
  have hI := nw (I, o) (by simp)
  refine ⟨N, e₀ ++ ((I, o') :: X), m, ⟨R.F.ns.at' fun ob e => hk _ ob (Ne.symm hI.2.1) e, fun b ob e => hk b ob (fun q => ?_) (R.F.keep b ob e), R.F.above⟩, ?_, ?_, k, R.yk, R.tmp, R.loc, R.gens, R.os⟩
  · rw [q] at e; rw [hI.2.2] at e; cases e
  · rw [e1 o']
    intro p hp
    rcases List.mem_append.mp hp with hp | hp
    · have := nw p (List.mem_append_left _ hp)
      exact ⟨hk _ _ (n1 p hp) this.1, this.2⟩
    · rcases List.mem_cons.mp hp with rfl | hp
      · exact ⟨ho, hI.2⟩
      · have := nw p (List.mem_append_right _ (.tail _ hp))
        exact ⟨hk _ _ (n2 p hp) this.1, this.2⟩
  · rw [e1 o']
    rw [List.map_append, List.map_cons] at nd ⊢
    exact nd
theorem Rep.unlay {I : Addr} {o : Obj} {Y : Led} (R : Rep (c.wX ((I, o) :: c.X) Y) loc H T s) (hY : ∀ p ∈ c.Y, p ∈ Y) : Rep c loc H T s := by
  obtain ⟨N, es, m, R⟩ := R
  obtain ⟨e₀, rfl, k⟩ := R.own.tailX (X' := c.X)
  refine ⟨N, e₀ ++ c.X, m, R.F, fun p hp => R.nw p ?_, ?_, k, fun p hp => R.yk p (hY p hp), R.tmp, R.loc, R.gens, R.os⟩
  · simp only [List.mem_append, List.mem_cons] at hp ⊢
    rcases hp with h | h | h <;> simp [h]
  · refine R.nd.sublist (List.Sublist.map _ (List.Sublist.append (List.Sublist.refl _) (List.Sublist.append (List.Sublist.refl _) (List.sublist_cons_self _ _))))
theorem Rep.unlayBut {c : Cx} {loc : Loc} {H : Own} {T : Tmp} {s : Shared} {I : Addr} {o : Obj} {Y : Led} {h2 : Heap} {tk : Nat} (R : Rep (c.wX ((I, o) :: c.X) Y) loc H T s) (hY : ∀ p ∈ c.Y, p ∈ Y) (hk2 : ∀ b ob, b ∉ [I] → s.heap.get? b = some ob → h2.get? b = some ob) : Rep c loc H T { s with heap := h2, toks := tk } := by
  obtain ⟨N3, es3, m3, R3⟩ := R
  obtain ⟨e₀, rfl, kk⟩ := R3.own.tailX (X' := c.X)
  have e1 : N3 ++ (e₀ ++ (I, o) :: c.X) = (N3 ++ e₀) ++ (I, o) :: c.X := by simp
  have nd := R3.nd
  have nw := R3.nw
  rw [show (c.wX ((I, o) :: c.X) Y).X = (I, o) :: c.X from rfl, e1] at nd nw
  obtain ⟨n1, n2⟩ := nodup_split nd
  have hI := nw (I, o) (by simp)
  refine ⟨N3, e₀ ++ c.X, m3, ⟨R3.F.ns.at' fun ob e => hk2 _ ob (by simpa using Ne.symm hI.2.1) e, fun b ob e => hk2 b ob (fun q => ?_) (R3.F.keep b ob e), R3.F.above⟩, fun p hp => ?_, ?_, kk, fun p hp => R3.yk p (hY p hp), R3.tmp, R3.loc, R3.gens, R3.os⟩
  · rw [List.mem_singleton.mp q] at e; rw [hI.2.2] at e; cases e
  · rw [← List.append_assoc] at hp
    rcases List.mem_append.mp hp with hp | hp
    · have := nw p (List.mem_append_left _ hp)
      exact ⟨hk2 _ _ (by simpa using n1 p hp) this.1, this.2⟩
    · have := nw p (List.mem_append_right _ (.tail _ hp))
      exact ⟨hk2 _ _ (by simpa using n2 p hp) this.1, this.2⟩
  · rw [← List.append_assoc]
    refine nd.sublist (List.Sublist.map _ (List.Sublist.append (List.Sublist.refl _) (List.sublist_cons_self _ _)))
theorem st_keep {w : World} {A : Around} {fp : List Addr} {n i : Nat} {Pi : Nat → Value → Prop} {St : Nat → Heap → Prop} {I : Addr} {o : Obj} {N : Led} {h : Heap} (W : Walks pg w A I fp [I] n Pi St) (hfp : ∀ b ∈ fp, b = I ∨ ∃ ob, (b, ob) ∈ N)
    (st : St i h) (hI : h.get? I = some o) (hN : ∀ p ∈ N, h.get? p.1 = some p.2) (R : Rep (c.wX ((I, o) :: c.X) N) loc H T s) : St i s.heap := by
  refine W.frame _ _ _ st fun b hb ob e => ?_
  obtain ⟨N7, es7, m7, R7⟩ := R
  rcases hfp b hb with rfl | ⟨ob', hob⟩
  · obtain rfl := Option.some.inj (hI.symm.trans e)
    obtain ⟨e₀, rfl, _⟩ := R7.own.tailX (X' := [])
    exact (R7.nw (_, o) (List.mem_append_right _ (List.mem_append_right _ (.head _)))).1
  · obtain rfl := Option.some.inj ((hN _ hob).symm.trans e)
    exact (R7.nw _ (List.mem_append_left _ (R7.yk _ hob))).1
noncomputable def Quiet (w : World) (o : Obj) : Prop := ∀ A I target v Q E s, s.heap.get? I = some o → Q () s → wpAny (model pg w) A (letOwnedTupleGo target (.ref I) v) Q E s
theorem quiet_tup {w : World} {o : Obj} {n : String} (h : o.cls = .type n) (hn : n ∈ ["list_iterator", "range_iterator", "str_iterator", "str_ascii_iterator"]) {A : Around} {I : Addr} {v : Value} {Q : Unit → Shared → Prop} {E : Value → Shared → Prop} {s : Shared} (ho : s.heap.get? I = some o) (hQ : Q () s) :
    wpAny (model pg w) A (letOwnedTupleGo (.Tuple [] 0 default) (.ref I) v) Q E s := by
  obtain ⟨cls, di, data, sl⟩ := o
  obtain rfl : cls = .type n := h
  cases v with
  | ref a =>
    refine wpAny_bind (wpAny_load ho ?_)
    cases data with
    | fields vs =>
      show wpAny _ _ (ite _ _ _) _ _ _
      split
      · rename_i hc
        have := (Bool.and_eq_true_iff.mp hc).1
        simp only [List.mem_cons, List.not_mem_nil, or_false] at hn
        rcases hn with rfl | rfl | rfl | rfl <;> simp at this
      · exact wpAny_pure hQ
    | _ => exact wpAny_pure hQ
  | _ => exact wpAny_pure hQ
theorem quiet_of {w : World} {o : Obj} {n : String} (h : o.cls = .type n) (hn : n ∈ ["list_iterator", "range_iterator", "str_iterator", "str_ascii_iterator"]) : Quiet w o := fun A I target v Q E s ho hQ => by
  cases target with
  | Tuple | List => exact quiet_tup h hn ho hQ
  | _ => exact wpAny_pure hQ
noncomputable def It (c : Cx) (v : AV) (items : List AV) : Prop := ∀ loc H T s v' N es m, RepW c loc H T s N es m → (v, v') ∈ T → ∀ (Q : Value → Shared → Prop) (E : Value → Shared → Prop),
  (∀ o fp Pi St, o.isFreed = false → (∀ A' : Around, A'.handled = none → Walks pg c.w A' s.heap.objs.size fp [s.heap.objs.size] items.length Pi St) → St 0 (s.heap.push o) → (∀ b ∈ fp, b = s.heap.objs.size ∨ ∃ ob, (b, ob) ∈ N) →
    (∀ i h, St i h → ∃ ob, h.get? s.heap.objs.size = some ob ∧ Quiet c.w ob) → (∀ i v', Pi i v' → i < items.length → ∃ x, items[i]? = some x ∧ VR c.base N x v') → Q (.ref s.heap.objs.size) { s with heap := s.heap.push o }) → wpAny (model pg c.w) c.A (pyIter v') Q E s
noncomputable def As1 (c : Cx) (env : Env) (t : Expr) (x : AV) (loc : Loc) (H : Own) (Q : Loc → Own → Prop) : Prop := ∀ T s v', Rep c loc H T s → (x, v') ∈ T →
  wpAny (model pg c.w) c.A (assign t env v') (fun _ s' => LOut c T Q s') EF s
theorem As1_name {y : String} {v : AV} {Q : Loc → Own → Prop} (h : St1 c env (Str.ofString y) v loc H Q) : As1 c env (.Name (Str.ofString y) pos) v loc H Q := fun T s v' R m => wpAny_assign_Name (h T s v' R m)
noncomputable abbrev kTurn (Inv : Nat → Loc → Own → Prop) (i : Nat) (P : SP) : SP := fun f l' H' => match f with | .next => Inv (i + 1) l' H' | .cont => Inv (i + 1) l' H' | .brk => P .next l' H' | .ret v => P (.ret v) l' H'
noncomputable abbrev kBody (c : Cx) (env : Env) (body : List Stmt) (Q : SP) : Loc → Own → Prop := fun l2 H2 => ASs c env body l2 H2 Q
inductive ForOk (c : Cx) (env : Env) (loc : Loc) (target : Expr) (body orelse : List Stmt) (P : SP) (v : AV) (H0 : Own) : Prop
  | intro (items : List AV) (it : It c v items) (Inv : Nat → Loc → Own → Prop) (i0 : Inv 0 loc H0)
      (turn : ∀ X Y i x l H1, items[i]? = some x → Inv i l H1 → As1 (c.wX X Y) env target x l H1 (kBody (c.wX X Y) env body (kTurn Inv i P)))
      (fin : ∀ l H1, Inv items.length l H1 → ASs c env orelse l H1 P)
noncomputable abbrev kFor (c : Cx) (env : Env) (loc : Loc) (target : Expr) (body orelse : List Stmt) (P : SP) : AV → Own → Prop := fun v H0 => ForOk c env loc target body orelse P v H0
theorem AS_for {target iter : Expr} {body orelse : List Stmt} (G : c.Good k) (h : AE c env iter loc H (kFor c env loc target body orelse P))
    (hs : ∀ x, foldedSetIterable iter env x = pure x := by intros; with_unfolding_all rfl) :
    AS c env (.For target iter body orelse pos) loc H P := fun T s R => by
  refine wpAny_For (thenW (h T s R) fun v' s1 v H0 R1 hx => ?_) hs
  obtain ⟨items, hit, Inv, i0, turn, fin⟩ := hx
  obtain ⟨N, es, m, R1⟩ := R1
  refine hit _ _ _ _ _ _ _ _ R1 (.head _) _ _ fun o fp Pi St hf W hst hfp hIo hPi => ?_
  have W := W c.A G.room.handled
  generalize hI : s1.heap.objs.size = I at W hst hfp hIo
  have hY : ∀ p ∈ c.Y, p ∈ N := R1.yk
  have hvs : ∀ i v', Pi i v' → i < items.length → ∃ x, items[i]? = some x ∧ VR c.base N x v' := hPi
  have R2 : Rep (c.wX ((I, o) :: c.X) N) loc H0 ((v, v') :: T) { s1 with heap := s1.heap.push o } := hI ▸ R1.lay o hf
  refine codeAny_forLoop_any (fun n s' => ∃ i o' l H1, n = items.length - i ∧ i ≤ items.length ∧ Rep (c.wX ((I, o') :: c.X) N) l H1 ((v, v') :: T) s' ∧ St i s'.heap ∧ Inv i l H1) (fun n s' hinv => ?_) items.length ⟨0, o, loc, H0, rfl, Nat.zero_le _, R2, hst, i0⟩
  obtain ⟨i, o', l, H1, rfl, hi, R3, st, hin⟩ := hinv
  rcases Nat.lt_or_ge i items.length with hlt | hge
  · refine W.item i _ _ _ hlt st fun u' h2 tk hP st2 hk2 => ?_
    obtain ⟨x, hx, hxv⟩ := hvs i u' hP hlt
    obtain ⟨o2, ho2, hq2⟩ := hIo _ _ st2
    refine hq2 _ _ _ _ _ _ _ ho2 ?_
    have R4 : Rep (c.wX ((I, o2) :: c.X) N) l H1 ((v, v') :: T) { s' with heap := h2, toks := tk } := R3.turn (fun b ob hb e => hk2 b ob (by simpa using hb) e) ho2
    obtain ⟨N4, es4, m4, R4⟩ := R4
    have R5 := R4.put (hxv.monoN R4.yk)
    refine thenL (c := c.wX ((I, o2) :: c.X) N) (turn ((I, o2) :: c.X) N i x l H1 hx hin _ _ _ R5.rep (.head _)) fun _ s5 l2 H2 R6 h6 => ?_
    refine thenF (c := c.wX ((I, o2) :: c.X) N) (h6 _ _ R6) fun f' s7 f l7 H7 T7 hfl R7 h7 => ?_
    have st7 : St (i + 1) s7.heap := st_keep W hfp st2 ho2 (fun p hp => (R4.nw _ (List.mem_append_left _ (R4.yk _ hp))).1) R7
    cases hfl with
    | next => exact ⟨_, by omega, i + 1, o2, l7, H7, rfl, hlt, R7.sub fun p hp => .tail _ hp, st7, h7⟩
    | cont => exact ⟨_, by omega, i + 1, o2, l7, H7, rfl, hlt, R7.sub fun p hp => .tail _ hp, st7, h7⟩
    | brk => exact ⟨_, _, _, _, .next, (R7.unlay hY).sub fun p hp => .tail _ (.tail _ hp), h7⟩
    | ret => exact ⟨_, _, _, _, .ret, (R7.unlay hY).sub fun p hp => by
        rcases List.mem_cons.mp hp with rfl | hp
        · exact .head _
        · exact .tail _ (.tail _ (.tail _ hp)), h7⟩
  · obtain rfl : i = items.length := Nat.le_antisymm hi hge
    refine W.done _ _ _ st fun h2 tk hk2 => ?_
    have R4 : Rep c l H1 ((v, v') :: T) { s' with heap := h2, toks := tk } := R3.unlayBut hY fun b ob hb e => hk2 b ob hb e
    refine thenF (fin l H1 hin _ _ R4) fun f' s5 f l5 H5 T5 hfl R5 h5 => ?_
    obtain ⟨T6, q1, q2⟩ := hfl.sub (T2 := T) fun p hp => .tail _ hp
    exact ⟨f, l5, H5, T6, q1, R5.sub q2, h5⟩
theorem AS_swap2 {x y : String} {e1 e2 : Expr} {p1 p2 p3 p4 : Pos} {k1 k2 : Nat} (G : c.Good k) (h : AE c c.env (.Tuple [e1, e2] k2 p4) loc H fun v H1 => ∃ v1 v2, v = .tup [v1, v2] ∧ St1 c c.env (Str.ofString y) v2 loc H1 fun l1 H2 => St1 c c.env (Str.ofString x) v1 l1 H2 fun l2 H3 => P .next l2 H3)
    (hs : swapsWithSole [.Tuple [.Name (Str.ofString x) p1, .Name (Str.ofString y) p2] k1 p3] (.Tuple [e1, e2] k2 p4) pos.line c.env = pure false := by with_unfolding_all rfl)
    (hw : swappedStores [.Tuple [.Name (Str.ofString x) p1, .Name (Str.ofString y) p2] k1 p3] (.Tuple [e1, e2] k2 p4) c.env = pure (some [Str.ofString x, Str.ofString y]) := by with_unfolding_all rfl) :
    AS c c.env (.Assign [.Tuple [.Name (Str.ofString x) p1, .Name (Str.ofString y) p2] k1 p3] (.Tuple [e1, e2] k2 p4) pos) loc H P := fun T s R => by
  refine Assign_Tuple_swapped (thenW (h T s R) fun v' s1 v H1 R1 ⟨v1, v2, hv, hh⟩ => ?_) hs hw
  subst hv
  obtain ⟨N, es, m, R1⟩ := R1
  obtain ⟨t, vs, rfl, hN, hv⟩ := (R1.tmp _ (.head _)).tup_inv
  · obtain ⟨u1, u2, rfl, h1, h2⟩ := hv.inv2
    · refine unpackItemsN_ (items := #[u1, u2]) R1.F R1.nw ⟨_, (R1.nw _ (List.mem_append_left _ hN)).1, rfl, 0, rfl⟩ G.room.handled rfl fun h' F' N' => ?_
      have R2 := ((R1.keep (tk := s1.toks) F' N').put h1).put h2
      show wpAny _ _ (assignInOrder [bindName c.env (Str.ofString y), bindName c.env (Str.ofString x)] [u2, u1]) _ _ _
      refine wpAny_bind (wpAny_holding (wpAny_bindName (thenL (hh _ _ _ R2.rep (.head _)) fun _ s3 l1 H2 R3 h3 => ?_)))
      refine wpAny_bind (wpAny_holding (wpAny_bindName (thenL (h3 _ _ _ R3 (.tail _ (.head _))) fun _ s4 l2 H3 R4 h4 => ?_)))
      exact wpAny_pure ⟨_, _, _, _, .next, R4.sub fun p hp => .tail _ (.tail _ (.tail _ hp)), h4⟩
theorem AS_unpack2 {x y : String} {e : Expr} {p1 p2 p3 : Pos} {k1 : Nat} (G : c.Good k) (h : AE c c.env e loc H fun v H1 => ∃ v1 v2, v = .tup [v1, v2] ∧ St1 c c.env (Str.ofString x) v1 loc H1 fun l1 H2 => St1 c c.env (Str.ofString y) v2 l1 H2 fun l2 H3 => P .next l2 H3)
    (hs : swapsWithSole [.Tuple [.Name (Str.ofString x) p1, .Name (Str.ofString y) p2] k1 p3] e pos.line c.env = pure false := by with_unfolding_all rfl)
    (hw : swappedStores [.Tuple [.Name (Str.ofString x) p1, .Name (Str.ofString y) p2] k1 p3] e c.env = pure none := by with_unfolding_all rfl) :
    AS c c.env (.Assign [.Tuple [.Name (Str.ofString x) p1, .Name (Str.ofString y) p2] k1 p3] e pos) loc H P := fun T s R => by
  refine Assign_Tuple (thenW (h T s R) fun v' s1 v H1 R1 ⟨v1, v2, hv, hh⟩ => ?_) hs hw
  subst hv
  obtain ⟨N, es, m, R1⟩ := R1
  obtain ⟨t, vs, rfl, hN, hv⟩ := (R1.tmp _ (.head _)).tup_inv
  · obtain ⟨u1, u2, rfl, h1, h2⟩ := hv.inv2
    · show wpAny _ _ (do standAt p3; unpack (.ref t) [(false, assign (.Name (Str.ofString x) p1) c.env), (false, assign (.Name (Str.ofString y) p2) c.env)]) _ _ _
      refine wpAny_bind (wpAny_standAt ?_)
      show wpAny _ _ (do assignInOrder [assign (.Name (Str.ofString x) p1) c.env, assign (.Name (Str.ofString y) p2) c.env] (← holding [.ref t] (unpackItems (.ref t) 2 none))) _ _ _
      refine wpAny_bind (wpAny_holding ?_)
      refine unpackItemsN_ (items := #[u1, u2]) R1.F R1.nw ⟨_, (R1.nw _ (List.mem_append_left _ hN)).1, rfl, 0, rfl⟩ G.room.handled rfl fun h' F' N' => ?_
      have R2 := ((R1.keep (tk := s1.toks) F' N').put h1).put h2
      show wpAny _ _ (assignInOrder [assign (.Name (Str.ofString x) p1) c.env, assign (.Name (Str.ofString y) p2) c.env] [u1, u2]) _ _ _
      refine wpAny_bind (wpAny_holding (wpAny_assign_Name (thenL (hh _ _ _ R2.rep (.tail _ (.head _))) fun _ s3 l1 H2 R3 h3 => ?_)))
      refine wpAny_bind (wpAny_holding (wpAny_assign_Name (thenL (h3 _ _ _ R3 (.head _)) fun _ s4 l2 H3 R4 h4 => ?_)))
      exact wpAny_pure ⟨_, _, _, _, .next, R4.sub fun p hp => .tail _ (.tail _ (.tail _ hp)), h4⟩
end
end
section
section
variable {c : Cx} {env : Env} {loc loc' : Loc} {H H' : Own} {P : AV → Own → Prop} {T : Tmp} {s : Shared} {v' : Value} {i : Int} {x : Str} {b : Bool} {a : Addr} {l : List AV} {k : Nat} {pos : Pos}
theorem It_lst {l : List AV} : It c (.lst l) l := fun loc H T s v' N es m R hm Q E hQ => by
  obtain ⟨ax, vs, n, rfl, h, r⟩ := (R.tmp _ hm).lst_inv
  · have ho := (R.nw _ (List.mem_append_left _ h)).1
    have hl : s.heap.IsList ax vs.toArray := ⟨_, ho, rfl, n, rfl⟩
    have hne : ax ≠ s.heap.objs.size := Nat.ne_of_lt (Heap.lt_size ho)
    have hsz : vs.toArray.size = l.length := by rw [List.size_toArray]; exact r.length
    refine wpAny_pyIter_list hl (hQ _ [s.heap.objs.size, ax] _ _ rfl (fun A' hA => hsz ▸ Walks.list hA _ ax hne vs.toArray) ⟨⟨_, Heap.get?_push_size _ rfl, rfl, rfl⟩, hl.push _⟩ (fun b hb => ?_) (fun i h st => ?_) fun i v' hP hi => ?_)
    · simp only [List.mem_cons, List.not_mem_nil, or_false] at hb
      rcases hb with rfl | rfl
      · exact .inl rfl
      · exact .inr ⟨_, h⟩
    · obtain ⟨⟨o, e, e2, _⟩, _⟩ := st; exact ⟨o, e, quiet_of e2 (by decide)⟩
    · exact r.getV (by simpa using hP)
noncomputable def rngItems (a b c : Int) : List AV := (List.range (Builtin.Range.rangeSize a b c).toNat).map fun i : Nat => .int (a + (i : Int) * c)
theorem It_rng {a b d : Int} (hs : Builtin.Range.small a b d = true) (h0 : 0 ≤ Builtin.Range.rangeSize a b d) : It c (.rng a b d) (rngItems a b d) := fun loc H T s v' N es m R hm Q E hQ => by
  obtain ⟨q, t, u, v, rfl, h⟩ := (R.tmp _ hm).rng_inv
  · have ho := (R.nw _ (List.mem_append_left _ h)).1
    have hl : (rngItems a b d).length = (Builtin.Range.rangeSize a b d).toNat := by simp [rngItems]
    have W : ∀ A' : Around, A'.handled = none → Walks pg c.w A' s.heap.objs.size [s.heap.objs.size] [s.heap.objs.size] (rngItems a b d).length (fun i v => ∃ t, v = .int (a + (i : Int) * d) t) (fun i h => IsRangeIter h s.heap.objs.size (a + (i : Nat) * d) (((Builtin.Range.rangeSize a b d).toNat : Int) - (i : Nat)) d) := fun A' hA => by
      rw [hl]; exact Walks.range hA _ a d _
    refine wpAny_pyIter_range ho hs (hQ _ [s.heap.objs.size] _ _ rfl W ?_ (fun b hb => .inl (by simpa using hb)) (fun i h st => ?_) fun i v' hP hi => ?_)
    · refine (Heap.get?_push_size _ rfl).trans ?_
      have e : ((Builtin.Range.rangeSize a b d).toNat : Int) = Builtin.Range.rangeSize a b d := Int.toNat_of_nonneg h0
      simp [e, rawInt]
    · exact ⟨_, st, quiet_of rfl (by decide)⟩
    · obtain ⟨t, rfl⟩ := hP
      have hi' : i < (Builtin.Range.rangeSize a b d).toNat := by rw [hl] at hi; exact hi
      exact ⟨_, by simp only [rngItems, List.getElem?_map, List.getElem?_range hi']; rfl, .int _ t⟩
theorem It_up {a b : Int} (ha : -(2 ^ 60) ≤ a) (ha' : a < 2 ^ 60) (hb' : -(2 ^ 60) ≤ b) (hb : b < 2 ^ 60) : It c (.rng a b 1) ((List.range (b - a).toNat).map fun i : Nat => .int (a + i)) := by
  have e : rngItems a b 1 = (List.range (b - a).toNat).map fun i : Nat => .int (a + i) := by
    unfold rngItems Builtin.Range.rangeSize
    rw [if_pos (by decide)]
    split
    · have : (b - a - 1) / 1 + 1 = b - a := by rw [Int.ediv_one]; omega
      rw [this]; simp
    · have : (b - a).toNat = 0 := by omega
      rw [this]; simp
  rw [← e]
  refine It_rng ?_ ?_
  · unfold Builtin.Range.small Builtin.Range.rangeSize Builtin.Range.rangeFitsLong; simp only [Bool.and_eq_true, Bool.or_eq_true, decide_eq_true_eq]; refine ⟨⟨⟨⟨by omega, by omega⟩, by omega⟩, ?_⟩, .inr ?_⟩ <;> (repeat' split) <;> simp <;> omega
  · unfold Builtin.Range.rangeSize; rw [if_pos (by decide)]; split
    · rw [Int.ediv_one]; omega
    · exact Int.le_refl _
theorem It_down {a b : Int} (ha : -(2 ^ 60) ≤ a) (ha' : a < 2 ^ 60) (hb' : -(2 ^ 60) ≤ b) (hb : b < 2 ^ 60) : It c (.rng a b (-1)) ((List.range (a - b).toNat).map fun i : Nat => .int (a - i)) := by
  have e : rngItems a b (-1) = (List.range (a - b).toNat).map fun i : Nat => .int (a - i) := by
    unfold rngItems Builtin.Range.rangeSize
    rw [if_neg (by decide)]
    split
    · have : (a - b - 1) / (- -1) + 1 = a - b := by rw [show (- -1 : Int) = 1 from rfl, Int.ediv_one]; omega
      rw [this]; apply List.map_congr_left; intro i _; congr 1; omega
    · have : (a - b).toNat = 0 := by omega
      rw [this]; simp
  rw [← e]
  refine It_rng ?_ ?_
  · unfold Builtin.Range.small Builtin.Range.rangeSize Builtin.Range.rangeFitsLong; simp only [Bool.and_eq_true, Bool.or_eq_true, decide_eq_true_eq]; refine ⟨⟨⟨⟨by omega, by omega⟩, by omega⟩, ?_⟩, .inr ?_⟩ <;> (repeat' split) <;> simp <;> omega
  · unfold Builtin.Range.rangeSize; rw [if_neg (by decide)]; split
    · rw [show (- -1 : Int) = 1 from rfl, Int.ediv_one]; omega
    · exact Int.le_refl _
noncomputable def signs (x : Str) : List AV := x.cps.toList.map fun n => .str ⟨#[n]⟩
theorem It_str {x : Str} : It c (.str x) (signs x) := fun loc H T s v' N es m R hm Q E hQ => by
  cases R.tmp _ hm with
  | str _ t =>
    have hl : (signs x).length = x.cps.size := by simp [signs]
    have key : ∀ (ty : String), ty ∈ ["list_iterator", "range_iterator", "str_iterator", "str_ascii_iterator"] → (∀ A' : Around, A'.handled = none → Walks pg c.w A' s.heap.objs.size [s.heap.objs.size] [s.heap.objs.size] x.cps.size (SignAt x) (fun i h => h.IsStrIter s.heap.objs.size ty x t i)) →
        Q (.ref s.heap.objs.size) { s with heap := s.heap.push { cls := .type ty, data := .fields #[.str x t, .int 0 0] } } := fun ty hty W =>
      hQ _ [s.heap.objs.size] _ _ rfl (fun A' hA => hl ▸ W A' hA) ⟨_, Heap.get?_push_size _ rfl, rfl, rfl⟩ (fun b hb => .inl (by simpa using hb)) (fun i h st => let ⟨o, e, e2, _⟩ := st; ⟨o, e, quiet_of e2 hty⟩) fun i v' hP hi => by
        obtain ⟨cp, u, h1, rfl⟩ := hP
        refine ⟨_, ?_, .str _ u⟩
        simp only [signs, List.getElem?_map]
        rw [Array.getElem?_toList, h1]; rfl
    cases ha : x.cps.all (· < 128)
    · exact wpAny_pyIter_wide ha (key _ (by decide) fun A' hA => Walks.strWide hA _ x t)
    · exact wpAny_pyIter_ascii ha (key _ (by decide) fun A' hA => Walks.strAscii hA _ x t)
inductive AOut (c : Cx) (loc : Loc) (T : Tmp) (P : List AV → Own → Prop) (vs' : List Value) (s' : Shared) : Prop
  | intro (vs : List AV) (H : Own) (T' : Tmp) (R : Rep c loc H T' s') (a : ArgsIn T' vs vs') (h : ∀ p ∈ T, p ∈ T') (p : P vs H)
theorem thenA {t : Sem (List Value)} {P : List AV → Own → Prop} {Q : List Value → Shared → Prop} {E : Value → Shared → Prop} (h : wpAny (model pg c.w) c.A t (AOut c loc T P) EF s) (k : ∀ v' s' vs H T', Rep c loc H T' s' → ArgsIn T' vs v' → (∀ p ∈ T, p ∈ T') → P vs H → Q v' s') : wpAny (model pg c.w) c.A t Q E s :=
  wpAny_mono h (fun v' s' o => AOut.casesOn o fun vs H T' R a h p => k v' s' vs H T' R a h p) fun _ _ e => False.elim e
noncomputable def AEs (c : Cx) (env : Env) (pos : Pos) (es : List Expr) (loc : Loc) (H : Own) (P : List AV → Own → Prop) : Prop := ∀ T s, Rep c loc H T s →
  wpAny (model pg c.w) c.A (spliced (backTo pos (starEach es env))) (AOut c loc T P) EF s
theorem AEs_nil {P : List AV → Own → Prop} (h : P [] H) : AEs c env pos [] loc H P := fun T s R => spliced_none ⟨[], H, T, R, .nil, fun p hp => hp, h⟩
noncomputable abbrev kCons (v : AV) (P : List AV → Own → Prop) : List AV → Own → Prop := fun vs H2 => P (v :: vs) H2
noncomputable abbrev kArgs (c : Cx) (env : Env) (loc : Loc) (pos : Pos) (es : List Expr) (P : List AV → Own → Prop) : AV → Own → Prop := fun v H1 => AEs c env pos es loc H1 (kCons v P)
theorem AEs_cons {e : Expr} {es : List Expr} {P : List AV → Own → Prop} (h : AE c env e loc H (kArgs c env loc pos es P))
    (hs : starEach (e :: es) env = (false, eval e env) :: starEach es env := by with_unfolding_all rfl) : AEs c env pos (e :: es) loc H P := fun T s R =>
  spliced_more (thenW (h T s R) fun v' s1 v H1 R1 h1 => thenA (h1 _ _ R1) fun vs' s2 vs H2 T' R2 hA hT h2 => ⟨v :: vs, H2, T', R2, .cons (hT _ (.head _)) hA, fun p hp => hT _ (.tail _ hp), h2⟩) hs
noncomputable def OpCall (c : Cx) (f : Value) (vs : List AV) (loc : Loc) (H : Own) (P : AV → Own → Prop) : Prop := ∀ T s vs', Rep c loc H T s → ArgsIn T vs vs' → W c T (call f vs') loc P s
theorem OpCall_of {f : Value} {vs : List AV} (G : c.Good k) (h : AF k f vs H P) : OpCall c f vs loc H P := fun T s vs' R hA => by
  refine wpAny_call (codeAny_mono (h c c.A loc T s vs' (G.le (Nat.zero_le _)) G.frames G.room R hA) fun r s' hr => ?_)
  unfold RP at hr
  split at hr
  · exact hr
  · exact hr.elim
noncomputable abbrev kDo (c : Cx) (loc : Loc) (f : Value) (P : AV → Own → Prop) : List AV → Own → Prop := fun vs H2 => OpCall c f vs loc H2 P
noncomputable abbrev kDoM (c : Cx) (loc : Loc) (f : Value) (v : AV) (P : AV → Own → Prop) : List AV → Own → Prop := fun vs H2 => OpCall c f (v :: vs) loc H2 P
noncomputable abbrev kCall (c : Cx) (env : Env) (loc : Loc) (pos : Pos) (es : List Expr) (V : AV) (f : Value) (P : AV → Own → Prop) : AV → Own → Prop := fun v H1 => v = V ∧ AEs c env pos es loc H1 (kDo c loc f P)
theorem AE_callb {fe e : Expr} {es : List Expr} (id : String) (h : AE c env fe loc H (kCall c env loc pos (e :: es) (.val (.builtin id)) (.builtin id) P))
    (h1 : eval (.Call fe (e :: es) [] pos) env = (do callWith pos (← eval fe env) [] (backTo pos (starEach (e :: es) env)) (backToKw pos (keywordEach [] env))) := by with_unfolding_all rfl)
    (h2 : starEach (e :: es) env = (false, eval e env) :: starEach es env := by with_unfolding_all rfl) (h3 : ((backTo pos (starEach es env)).any (·.1)) = false := by with_unfolding_all rfl) : AE c env (.Call fe (e :: es) [] pos) loc H P := fun T s R =>
  Call_ (thenW (h T s R) fun v' s1 v H1 R1 ⟨hv, hh⟩ => by
    subst hv
    rw [R1.isVal (.head _)]
    exact PyProof.Rows.callWith_builtin1 (thenA (hh _ _ R1) fun vs' s2 vs H2 T' R2 hA hT hc => (hc _ _ _ R2 hA).sub fun p hp => hT _ (.tail _ hp)) h2 h3) h1
theorem AE_callt {fe e : Expr} {es : List Expr} (id : String) (h : AE c env fe loc H (kCall c env loc pos (e :: es) (.val (.type id)) (.type id) P))
    (h1 : eval (.Call fe (e :: es) [] pos) env = (do callWith pos (← eval fe env) [] (backTo pos (starEach (e :: es) env)) (backToKw pos (keywordEach [] env))) := by with_unfolding_all rfl)
    (h2 : starEach (e :: es) env = (false, eval e env) :: starEach es env := by with_unfolding_all rfl) (h3 : ((backTo pos (starEach es env)).any (·.1)) = false := by with_unfolding_all rfl) : AE c env (.Call fe (e :: es) [] pos) loc H P := fun T s R =>
  Call_ (thenW (h T s R) fun v' s1 v H1 R1 ⟨hv, hh⟩ => by
    subst hv
    rw [R1.isVal (.head _)]
    exact Pv.callWith_type1 (thenA (hh _ _ R1) fun vs' s2 vs H2 T' R2 hA hT hc => (hc _ _ _ R2 hA).sub fun p hp => hT _ (.tail _ hp)) h2 h3) h1
theorem AE_callf {fe e : Expr} {es : List Expr} (f : Addr) (G : c.Good k) (hf : ∀ w, keepIn (KF w) (.ref f) = true) (h : AE c env fe loc H (kCall c env loc pos (e :: es) (.ref f) (.ref f) P))
    (h1 : eval (.Call fe (e :: es) [] pos) env = (do callWith pos (← eval fe env) [] (backTo pos (starEach (e :: es) env)) (backToKw pos (keywordEach [] env))) := by with_unfolding_all rfl)
    (h2 : starEach (e :: es) env = (false, eval e env) :: starEach es env := by with_unfolding_all rfl) (h3 : ((backTo pos (starEach es env)).any (·.1)) = false := by with_unfolding_all rfl) : AE c env (.Call fe (e :: es) [] pos) loc H P := fun T s R =>
  Call_ (thenW (h T s R) fun v' s1 v H1 R1 ⟨hv, hh⟩ => by
    subst hv
    rw [R1.isRef (.head _)]
    exact callWith_K G.K (hf c.w) (thenA (hh _ _ R1) fun vs' s2 vs H2 T' R2 hA hT hc => ⟨by
      obtain ⟨N, es, m, R2⟩ := R2
      exact G.K.keeps R2.F.keep, (hc _ _ _ R2 hA).sub fun p hp => hT _ (.tail _ hp)⟩) h2 h3) h1
noncomputable def OpMeth (c : Cx) (v : AV) (name : Str) (f : Value) (loc : Loc) (H : Own) : Prop := ∀ T s v' pl, Rep c loc H T s → (v, v') ∈ T → ∀ (Q : Value × List Value → Shared → Prop) (E : Value → Shared → Prop), (∀ tk, Q (f, [v']) { s with toks := tk }) → wpAny (model pg c.w) c.A (getMethod v' name pl) Q E s
noncomputable abbrev kMeth (c : Cx) (env : Env) (loc : Loc) (pos : Pos) (es : List Expr) (name : Str) (f : Value) (P : AV → Own → Prop) : AV → Own → Prop := fun v H1 => OpMeth c v name f loc H1 ∧ AEs c env pos es loc H1 (kDoM c loc f v P)
noncomputable abbrev kMeth0 (c : Cx) (loc : Loc) (name : Str) (f : Value) (P : AV → Own → Prop) : AV → Own → Prop := fun v H1 => OpMeth c v name f loc H1 ∧ OpCall c f [v] loc H1 P
theorem AE_methb {o e : Expr} {es : List Expr} {name : Str} {apos : Pos} (id : String) {pl : Sem Bool} (h : AE c env o loc H (kMeth c env loc pos (e :: es) name (.builtin id) P))
    (h1 : eval (.Call (.Attribute o name apos) (e :: es) [] pos) env = (do let ov ← eval o env; standAt apos.atName; let (f, first) ← holding [ov] (getMethod ov name pl); callWith pos f first (backTo pos (starEach (e :: es) env)) []) := by with_unfolding_all rfl)
    (h2 : starEach (e :: es) env = (false, eval e env) :: starEach es env := by with_unfolding_all rfl) (h3 : ((backTo pos (starEach es env)).any (·.1)) = false := by with_unfolding_all rfl) : AE c env (.Call (.Attribute o name apos) (e :: es) [] pos) loc H P := fun T s R =>
  MethodCall_ (thenW (h T s R) fun v' s1 v H1 R1 ⟨hm, hh⟩ => hm _ _ v' _ R1 (.head _) _ _ fun tk =>
    PyProof.Rows.callWith_method1 (thenA (hh _ _ R1.tok) fun vs' s2 vs H2 T' R2 hA hT hc => (hc _ _ _ R2 (.cons (hT _ (.head _)) hA)).sub fun p hp => hT _ (.tail _ hp)) h2 h3) h1
theorem AE_methb0 {o : Expr} {name : Str} {apos : Pos} (id : String) {pl : Sem Bool} (h : AE c env o loc H (kMeth0 c loc name (.builtin id) P))
    (h1 : eval (.Call (.Attribute o name apos) [] [] pos) env = (do let ov ← eval o env; standAt apos.atName; let (f, first) ← holding [ov] (getMethod ov name pl); callWith pos f first (backTo pos (starEach [] env)) []) := by with_unfolding_all rfl) : AE c env (.Call (.Attribute o name apos) [] [] pos) loc H P := fun T s R =>
  MethodCall_ (thenW (h T s R) fun v' s1 v H1 R1 ⟨hm, hh⟩ => hm _ _ v' _ R1 (.head _) _ _ fun tk =>
    PyProof.Rows.callWith_method0 ((hh _ _ _ R1.tok (.cons (.head _) .nil)).sub fun p hp => .tail _ hp)) h1
theorem AE_methf {o e : Expr} {es : List Expr} {name : Str} {apos : Pos} (f : Addr) {pl : Sem Bool} (G : c.Good k) (hf : ∀ w, keepIn (KF w) (.ref f) = true) (h : AE c env o loc H (kMeth c env loc pos (e :: es) name (.ref f) P))
    (h1 : eval (.Call (.Attribute o name apos) (e :: es) [] pos) env = (do let ov ← eval o env; standAt apos.atName; let (f, first) ← holding [ov] (getMethod ov name pl); callWith pos f first (backTo pos (starEach (e :: es) env)) []) := by with_unfolding_all rfl)
    (h2 : starEach (e :: es) env = (false, eval e env) :: starEach es env := by with_unfolding_all rfl) (h3 : ((backTo pos (starEach es env)).any (·.1)) = false := by with_unfolding_all rfl) : AE c env (.Call (.Attribute o name apos) (e :: es) [] pos) loc H P := fun T s R =>
  MethodCall_ (thenW (h T s R) fun v' s1 v H1 R1 ⟨hm, hh⟩ => hm _ _ v' _ R1 (.head _) _ _ fun tk =>
    callWith_K G.K (hf c.w) (thenA (hh _ _ R1.tok) fun vs' s2 vs H2 T' R2 hA hT hc => ⟨by
      obtain ⟨N, es, m, R2⟩ := R2
      exact G.K.keeps R2.F.keep, (hc _ _ _ R2 (.cons (hT _ (.head _)) hA)).sub fun p hp => hT _ (.tail _ hp)⟩) h2 h3) h1
theorem AE_methf0 {o : Expr} {name : Str} {apos : Pos} (f : Addr) {pl : Sem Bool} (G : c.Good k) (hf : ∀ w, keepIn (KF w) (.ref f) = true) (h : AE c env o loc H (kMeth0 c loc name (.ref f) P))
    (h1 : eval (.Call (.Attribute o name apos) [] [] pos) env = (do let ov ← eval o env; standAt apos.atName; let (f, first) ← holding [ov] (getMethod ov name pl); callWith pos f first (backTo pos (starEach [] env)) []) := by with_unfolding_all rfl) : AE c env (.Call (.Attribute o name apos) [] [] pos) loc H P := fun T s R =>
  MethodCall_ (thenW (h T s R) fun v' s1 v H1 R1 ⟨hm, hh⟩ => hm _ _ v' _ R1 (.head _) _ _ fun tk => by
    obtain ⟨N, es, m, R2⟩ := R1
    exact callWith_K0 (G.K.keeps R2.F.keep) (hf c.w) ((hh _ _ _ R2.rep.tok (.cons (.head _) .nil)).sub fun p hp => .tail _ hp)) h1
noncomputable abbrev kList (P : AV → Own → Prop) : List AV → Own → Prop := fun vs H1 => vs.length ≤ 1000 ∧ ∀ q, P (.ref q) ((q, .list vs) :: H1)
noncomputable abbrev kTup (P : AV → Own → Prop) : List AV → Own → Prop := fun vs H1 => vs.length ≤ 1000 ∧ P (.tup vs) H1
theorem AE_list {es : List Expr} (h : AEs c env pos es loc H (kList P)) : AE c env (.List es pos) loc H P := fun T s R =>
  List_ (thenA (h T s R) fun vs' s1 vs H1 T' R1 hA hT ⟨hl, hp⟩ => by
    obtain ⟨N, es, m, R1⟩ := R1
    have hv := hA.vrs R1.tmp
    refine newList_K R1.F R1.nw (fun q h' F' N' lt => ⟨_, _, ?_, hp q⟩) (by rw [hv.length]; exact Nat.le_trans hl (by decide))
    have R2 := R1.newO (tk := s1.toks) F' N' lt (.list hv)
    exact ((R2.put (.ref q)).rep).sub fun p hp => by
      rcases List.mem_cons.mp hp with rfl | hp
      · exact .head _
      · exact .tail _ (hT _ hp))
theorem AE_tuple {es : List Expr} {kk : Nat} (h : AEs c env pos es loc H (kTup P)) : AE c env (.Tuple es kk pos) loc H P := fun T s R =>
  Tuple_ (thenA (h T s R) fun vs' s1 vs H1 T' R1 hA hT ⟨hl, hp⟩ => by
    obtain ⟨N, es, m, R1⟩ := R1
    have hv := hA.vrs R1.tmp
    refine newTuple_N R1.F R1.nw (fun h' F' N' => ⟨_, _, ?_, hp⟩) (by rw [hv.length]; exact Nat.le_trans hl (by decide))
    have R2 := R1.newN (tk := s1.toks) F' N' fun p hp => Heap.lt_size (R1.nw p hp).1
    exact ((R2.put (.tup (.head _) (hv.monoN fun p hp => .tail _ hp))).rep).sub fun p hp => by
      rcases List.mem_cons.mp hp with rfl | hp
      · exact .head _
      · exact .tail _ (hT _ hp))
theorem Rep.ownList {l : List AV} (R : Rep c loc H T s) (hm : (a, AO.list l) ∈ H) : ∃ N vs n, s.heap.get? a = some (W.listOf vs.toArray n) ∧ VRs c.base N l vs := by
  obtain ⟨N, es, m, R⟩ := R
  obtain ⟨e, ho, he⟩ := R.get hm
  obtain ⟨vs, n, rfl, h⟩ := ho.list_inv
  exact ⟨N, _, _, (R.nw _ (he _ (.head _))).1, h⟩
theorem OpG_own {l : List AV} {j : Nat} {x : AV} (hm : (a, AO.list l) ∈ H) (h0 : 0 ≤ i) (hi : i < 2 ^ 62) (hx : l[i.toNat]? = some x) (h : P x H) : OpG c (.ref a) (.int i) loc H P := fun T s v1' v2' R m1 m2 => by
  obtain ⟨t, rfl⟩ := R.isInt m2
  rw [R.isRef m1]
  obtain ⟨N, es, m, R⟩ := R
  obtain ⟨e, ho, he⟩ := R.get hm
  obtain ⟨vs, n, rfl, hv⟩ := ho.list_inv
  · obtain ⟨u, hu, hr⟩ := hv.get hx
    exact wpAny_getItem_list ⟨_, (R.nw _ (he _ (.head _))).1, rfl, n, rfl⟩ h0 (by omega) (by simpa using hu) ⟨x, H, (R.put hr).rep, h⟩
theorem OpG_lst {l : List AV} {x : AV} (h0 : 0 ≤ i) (hi : i < 2 ^ 62) (hx : l[i.toNat]? = some x) (h : P x H) : OpG c (.lst l) (.int i) loc H P := fun T s v1' v2' R m1 m2 => by
  obtain ⟨t, rfl⟩ := R.isInt m2
  obtain ⟨N, es, m, R⟩ := R
  obtain ⟨ax, vs, n, rfl, hN, hv⟩ := (R.tmp _ m1).lst_inv
  · obtain ⟨u, hu, hr⟩ := hv.get hx
    exact wpAny_getItem_list ⟨_, (R.nw _ (List.mem_append_left _ hN)).1, rfl, n, rfl⟩ h0 (by omega) (by simpa using hu) ⟨x, H, (R.put hr).rep, h⟩
theorem OpG_blst {l : List AV} {x : AV} (G : c.Good k) (h0 : 0 ≤ i) (hi : i < 2 ^ 62) (hx : l[i.toNat]? = some x) (h : P x H) : OpG c (.blst l) (.int i) loc H P := fun T s v1' v2' R m1 m2 => by
  obtain ⟨t, rfl⟩ := R.isInt m2
  obtain ⟨N, es, m, R⟩ := R
  obtain ⟨ax, vs, rfl, hN, hv⟩ := (R.tmp _ m1).blst_inv
  · obtain ⟨u, hu, hr⟩ := hv.get hx
    obtain ⟨o, ho, r⟩ := hN
    exact wpAny_getItem_list ⟨o, R.F.keep _ _ (G.below.stays _ _ ho), r⟩ h0 (by omega) (by simpa using hu) ⟨x, H, (R.put hr).rep, h⟩
theorem OpS_own {l : List AV} {x : AV} {Q : Own → Prop} (U : At a (.list l) (.list (l.set i.toNat x)) H H') (h0 : 0 ≤ i) (hi : i < 2 ^ 62) (hx : i < l.length) (h : Q H') : OpS c (.ref a) (.int i) x loc H Q := fun T s v1' v2' v3' R m1 m2 m3 => by
  obtain ⟨t, rfl⟩ := R.isInt m2
  rw [R.isRef m1]
  obtain ⟨N, es, m, R⟩ := R
  obtain ⟨e, ho, kk⟩ := R.upd U
  obtain ⟨vs, n, rfl, hv⟩ := ho.list_inv
  · obtain ⟨Pr, Po, e1, q1, q2, fin⟩ := kk [] a _ [] rfl
    have nw := R.nw
    rw [e1] at nw
    have z := nw (a, W.listOf vs.toArray n) (by simp)
    have hl := hv.length
    refine ki_setAt z.1 h0 (by omega) (by simpa [hl] using hx) ⟨H', fin _ _ s.toks (.list (hv.set _ (R.tmp _ m3))) (R.F.change (Heap.SameBut.update ..) z.2.1 z.2.2) (ki_turn (n' := n) _ nw q1 q2 ?_ ?_), h⟩
    · apply Array.toList_inj.mp
      simp
    · simp
noncomputable def NoPy (c : Cx) (v : AV) (loc : Loc) (H : Own) : Prop := ∀ T s v', Rep c loc H T s → (v, v') ∈ T → ∀ (Q : Bool → Shared → Prop) (E : Value → Shared → Prop), Q false s → wpAny (model pg c.w) c.A (getitemInPython v') Q E s
theorem noPy_of {s : Shared} {v' : Value} {ty id : String} {Q : Bool → Shared → Prop} {E : Value → Shared → Prop} (hT : s.TypeIs v' ty) (hl : typeLookup (.type ty) "__getitem__" = pure (some (.builtin id))) (h : Q false s) : wpAny (model pg c.w) c.A (getitemInPython v') Q E s := by
  unfold getitemInPython
  refine wpAny_bind (wpAny_specialOf hT hl ?_)
  exact wpAny_pure h
theorem NoPy_str : NoPy c (.str x) loc H := fun T s v' R hm Q E h => by
  obtain ⟨t, rfl⟩ := R.isStr hm
  exact noPy_of (typeIs_str s x t) PySem.F.slot_str_getitem.lookup h
theorem NoPy_lst {l : List AV} : NoPy c (.lst l) loc H := fun T s v' R hm Q E h => by
  obtain ⟨t, N, vs, rfl, hl, _⟩ := R.isLst hm
  exact noPy_of hl.typeIs slot_list_getitem.lookup h
theorem NoPy_blst {l : List AV} (G : c.Good k) : NoPy c (.blst l) loc H := fun T s v' R hm Q E h => by
  obtain ⟨N, es, m, R⟩ := R
  obtain ⟨ax, vs, rfl, hN, hv⟩ := (R.tmp _ hm).blst_inv
  · obtain ⟨o, ho, r⟩ := hN
    exact noPy_of (Heap.IsList.typeIs ⟨o, R.F.keep _ _ (G.below.stays _ _ ho), r⟩) slot_list_getitem.lookup h
theorem NoPy_tup {l : List AV} : NoPy c (.tup l) loc H := fun T s v' R hm Q E h => by
  obtain ⟨t, N, vs, rfl, hl, _⟩ := R.isTup hm
  exact noPy_of hl.typeIs PySem.F.slot_tuple_getitem.lookup h
theorem NoPy_own {l : List AV} (hm : (a, AO.list l) ∈ H) : NoPy c (.ref a) loc H := fun T s v' R m1 Q E h => by
  rw [R.isRef m1]
  obtain ⟨N, vs, n, ho, _⟩ := R.ownList hm
  exact noPy_of ⟨_, ho, rfl⟩ slot_list_getitem.lookup h
noncomputable abbrev kSub2 (c : Cx) (loc : Loc) (v1 : AV) (P : AV → Own → Prop) : AV → Own → Prop := fun v2 H2 => NoPy c v1 loc H2 ∧ OpG c v1 v2 loc H2 P
noncomputable abbrev kSub (c : Cx) (env : Env) (loc : Loc) (e2 : Expr) (P : AV → Own → Prop) : AV → Own → Prop := fun v1 H1 => AE c env e2 loc H1 (kSub2 c loc v1 P)
theorem AE_subg {e1 e2 : Expr} (h : AE c env e1 loc H (kSub c env loc e2 P))
    (hs : ∀ o i, ∃ ops, subscripted e2 false o i = operate ops (getItem o i) := by intros; exact ⟨_, by with_unfolding_all rfl⟩) : AE c env (.Subscript e1 e2 pos) loc H P :=
  AE_sub (h.mono fun v1 H1 h1 => h1.mono fun v2 H2 h2 T s v1' v2' R m1 m2 => by
    obtain ⟨h2a, h2b⟩ := h2
    unfold W subscriptTail
    refine wpAny_bind ?_
    refine h2a T s v1' R m1 _ _ ?_
    obtain ⟨ops, e⟩ := hs v1' v2'
    rw [e]
    exact wpAny_bind (wpAny_operateT (wpAny_mono (h2b T s v1' v2' R m1 m2) (fun r s₃ h₃ => wpAny_bind (wpAny_letTemporaryGo (wpAny_pure h₃))) fun _ _ x => x)))
theorem OpCall_len_str (hl : (x.length : Int) < 2 ^ 63) (h : P (.int x.length) H) : OpCall c (.builtin "len") [.str x] loc H P := fun T s vs' R hA => by
  obtain ⟨_, rfl, m⟩ := hA.one
  · obtain ⟨t, rfl⟩ := R.isStr m
    exact PyProof.Rows.len_str (by omega) ⟨_, _, R.tok.int _ _, h⟩
theorem OpCall_len_blst {l : List AV} (G : c.Good k) (hl : l.length < 2 ^ 62) (h : P (.int l.length) H) : OpCall c (.builtin "len") [.blst l] loc H P := fun T s vs' R hA => by
  obtain ⟨_, rfl, m⟩ := hA.one
  · obtain ⟨N, es, mm, R⟩ := R
    obtain ⟨ax, vs, rfl, hN, hv⟩ := (R.tmp _ m).blst_inv
    · obtain ⟨o, ho, r⟩ := hN
      have e : (vs.toArray.size : Int) = (l.length : Int) := by rw [List.size_toArray, hv.length]
      exact call_len_list ⟨o, R.F.keep _ _ (G.below.stays _ _ ho), r⟩ (by rw [e]; omega) ⟨_, _, by rw [e]; exact R.tok.rep.int _ _, h⟩
theorem OpCall_len_own {l : List AV} (hm : (a, AO.list l) ∈ H) (hl : l.length < 2 ^ 62) (h : P (.int l.length) H) : OpCall c (.builtin "len") [.ref a] loc H P := fun T s vs' R hA => by
  obtain ⟨_, rfl, m⟩ := hA.one
  · rw [R.isRef m]
    obtain ⟨N, vs, n, ho, hv⟩ := R.ownList hm
    have e : (vs.toArray.size : Int) = (l.length : Int) := by rw [List.size_toArray, hv.length]
    exact call_len_list ⟨_, ho, rfl, n, rfl⟩ (by rw [e]; omega) ⟨_, _, by rw [e]; exact R.tok.int _ _, h⟩
theorem OpCall_range1 (h : P (.rng 0 i 1) H) : OpCall c (.type "range") [.int i] loc H P := fun T s vs' R hA => by
  obtain ⟨_, rfl, m⟩ := hA.one
  · obtain ⟨t, rfl⟩ := R.isInt m
    refine call_range_1 ?_
    obtain ⟨N, es, mm, R⟩ := R
    have R2 := R.newN (tk := s.toks + 1 + 1) (R.F.push (rngO 0 i 1 s.toks t (s.toks + 1))) (News.push R.F R.nw _ rfl) fun p hp => Heap.lt_size (R.nw p hp).1
    exact ⟨_, _, (R2.put (.rng (.head _))).rep, h⟩
theorem OpCall_range2 {j : Int} (h : P (.rng i j 1) H) : OpCall c (.type "range") [.int i, .int j] loc H P := fun T s vs' R hA => by
  obtain ⟨_, _, rfl, m, m2⟩ := hA.two
  ·   obtain ⟨t, rfl⟩ := R.isInt m
      obtain ⟨u, rfl⟩ := R.isInt m2
      refine call_range_2 ?_
      obtain ⟨N, es, mm, R⟩ := R
      have R2 := R.newN (tk := s.toks + 1) (R.F.push (rngO i j 1 t u s.toks)) (News.push R.F R.nw _ rfl) fun p hp => Heap.lt_size (R.nw p hp).1
      exact ⟨_, _, (R2.put (.rng (.head _))).rep, h⟩
theorem OpCall_range3 {j d : Int} (hd : d ≠ 0) (hp : Builtin.divisionGoesByPylong (j - i) d = false) (h : P (.rng i j d) H) : OpCall c (.type "range") [.int i, .int j, .int d] loc H P := fun T s vs' R hA => by
  obtain ⟨_, _, _, rfl, m, m2, m3⟩ := hA.three
  ·     obtain ⟨t, rfl⟩ := R.isInt m
        obtain ⟨u, rfl⟩ := R.isInt m2
        obtain ⟨v, rfl⟩ := R.isInt m3
        refine call_range_3 hd ?_ (.inl hp)
        obtain ⟨N, es, mm, R⟩ := R
        have R2 := R.newN (tk := s.toks) (R.F.push (rngO i j d t u v)) (News.push R.F R.nw _ rfl) fun p hp => Heap.lt_size (R.nw p hp).1
        exact ⟨_, _, (R2.put (.rng (.head _))).rep, h⟩
theorem OpMeth_append {l : List AV} (hm : (a, AO.list l) ∈ H) : OpMeth c (.ref a) "append" (.builtin "list.append") loc H := fun T s v' pl R m Q E h => by
  rw [R.isRef m] at h ⊢
  obtain ⟨N, vs, n, ho, hv⟩ := R.ownList hm
  exact getMethod_list_append ho rfl rfl (h s.toks)
theorem OpCall_append {l : List AV} {v : AV} (U : At a (.list l) (.list (l ++ [v])) H H') (hl : l.length ≤ 1000000) (h : P .none H') : OpCall c (.builtin "list.append") [.ref a, v] loc H P := fun T s vs' R hA => by
  cases hA with
  | cons m r =>
    cases r with
    | @cons _ v' _ _ m2 r =>
      cases r
      rw [R.isRef m]
      obtain ⟨N, es, mm, R⟩ := R
      obtain ⟨e, ho, kk⟩ := R.upd U
      obtain ⟨vs, n, rfl, hv⟩ := ho.list_inv
      · obtain ⟨Pr, Po, e1, q1, q2, fin⟩ := kk [] a _ [] rfl
        have nw := R.nw
        rw [e1] at nw
        refine append_K R.F nw (upd_of q1 q2) (fun h' F' N' => ⟨.none, H', ?_, h⟩) (by rw [List.size_toArray, hv.length]; exact Nat.le_trans hl (by decide))
        have e2 : vs.toArray.push v' = (vs ++ [v']).toArray := by simp
        rw [e2] at N'
        exact (fin _ h' s.toks (.list (hv.append (.cons (R.tmp _ m2) .nil))) F' N').none
theorem W.freeze {t : Sem Value} (h : W c T t loc (fun v H1 => ∃ q l H0, v = .ref q ∧ H1 = (q, .list l) :: H0 ∧ P (.lst l) H0) s) : W c T t loc P s :=
  wpAny_mono h (fun v' s' ⟨v, H1, R, q, l, H0, e1, e2, p⟩ => by
    subst e1 e2
    have e := R.isRef (.head _)
    subst e
    exact ⟨_, _, R.freeze.sub fun p hp => by
      rcases List.mem_cons.mp hp with rfl | hp
      · exact .head _
      · exact .tail _ (.tail _ hp), p⟩) fun _ _ e => e
theorem AE_freeze {e : Expr} (h : AE c env e loc H fun v H1 => ∃ q l H0, v = .ref q ∧ H1 = (q, .list l) :: H0 ∧ P (.lst l) H0) : AE c env e loc H P := fun T s R => (h T s R).freeze
theorem AF_freeze {f : Value} {args : List AV} (h : AF k f args H fun v H1 => ∃ q l H0, v = .ref q ∧ H1 = (q, .list l) :: H0 ∧ P (.lst l) H0) : AF k f args H P := fun c A loc T s args' G hA hR R hI =>
  codeAny_mono (h c A loc T s args' G hA hR R hI) fun r s' hr => by
    unfold RP at hr ⊢
    split at hr
    · obtain ⟨v, H1, R, q, l, H0, e1, e2, p⟩ := hr
      subst e1 e2
      have e := R.isRef (.head _)
      subst e
      exact ⟨_, _, R.freeze.sub fun p hp => by
        rcases List.mem_cons.mp hp with rfl | hp
        · exact .head _
        · exact .tail _ (.tail _ hp), p⟩
    · exact hr
theorem AF_drop {f : Value} {args : List AV} (h : AF k f args H fun v H1 => ∃ x H0, H1 = x :: H0 ∧ P v H0) : AF k f args H P := fun c A loc T s args' G hA hR R hI =>
  codeAny_mono (h c A loc T s args' G hA hR R hI) fun r s' hr => by
    unfold RP at hr ⊢
    split at hr
    · obtain ⟨v, H1, R, x, H0, e, p⟩ := hr
      subst e
      exact ⟨_, _, R.drop, p⟩
    · exact hr
end
end
section
set_option maxHeartbeats 1000000 in
theorem measure_spec {k : Nat} {a b : Int} {H : Own} {P : AV → Own → Prop} (ha : 0 ≤ a) (hb : 0 ≤ b) (h : P (.int (Nat.gcd a.toNat b.toNat)) H) : AF (k + 1) (.ref 283) [.int a, .int b] H P := by
  refine AF_def (ds := []) ["a", "b"] [] [("a", some (.int a)), ("b", some (.int b))] (fun w => by rfl) (fun w => by rfl) rfl (by decide) ?_ (by decide +kernel) ?_ (by decide)
  · intro w s args' hl hk
    obtain ⟨x, y, rfl⟩ := ln2 hl
    exact ⟨[], BindsTo.of_eq rfl, fun _ _ => .nil⟩
  · intro w os base outer A₀ A h₀ L X Y c G
    refine ASs_cons ?_
    refine AS_while (fun n l H1 => ∃ a' b' : Int, 0 ≤ a' ∧ 0 ≤ b' ∧ n = b'.toNat ∧ Nat.gcd a'.toNat b'.toNat = Nat.gcd a.toNat b.toNat ∧ H1 = H ∧ l = [("a", some (.int a')), ("b", some (.int b'))]) b.toNat ⟨a, b, ha, hb, rfl, rfl, rfl, rfl⟩ ?_
    rintro n l H1 ⟨a', b', ha', hb', rfl, hg, rfl, rfl⟩
    refine AB_compare ?_
    refine AE_local (by assumption) (mi 1 rfl) ?_; refine AE_int ?_
    refine OpC_ne ⟨_, rfl, fun hb0 => ?_, fun hb0 => ?_⟩
    · have hne : b' ≠ 0 := by simpa using hb0
      refine ASs_cons (AS_swap2 G (AE_tuple (AEs_cons ?_)))
      refine AE_local (by assumption) (mi 1 rfl) ?_
      refine AEs_cons ?_
      refine AE_binop ?_
      refine AE_local (by assumption) (.head _) ?_
      refine AE_local (by assumption) (mi 1 rfl) ?_
      refine OpB_mod hne ?_
      refine AEs_nil ⟨by simp, _, _, rfl, ?_⟩
      (refine St1_local (by assumption) (by with_reducible repeat first | exact SetL.head | apply SetL.tail) ?_)
      (refine St1_local (by assumption) (by with_reducible repeat first | exact SetL.head | apply SetL.tail) ?_)
      have hpos : 0 < b' := by omega
      have e1 : a'.fmod b' = a' % b' := Int.fmod_eq_emod_of_nonneg a' hb'
      refine ASs_nil ⟨(a' % b').toNat, ?_, b', a'.fmod b', hb', ?_, by rw [e1], ?_, rfl, rfl⟩
      · have := Int.emod_lt_of_pos a' hpos; have := Int.emod_nonneg a' hne; omega
      · rw [e1]; exact Int.emod_nonneg a' hne
      · rw [e1, ← hg]
        obtain ⟨m, rfl⟩ := Int.eq_ofNat_of_zero_le ha'
        obtain ⟨n, rfl⟩ := Int.eq_ofNat_of_zero_le hb'
        have : ((m : Int) % (n : Int)).toNat = m % n := by
          rw [← Int.natCast_emod]; exact Int.toNat_natCast _
        rw [this]
        simp only [Int.toNat_natCast]
        rw [Nat.gcd_comm n (m % n), ← Nat.gcd_rec, Nat.gcd_comm]
    · have h0 : b' = 0 := by simpa using hb0
      refine ASs_nil ?_
      refine ASs_cons (AS_return ?_)
      refine AE_local (by assumption) (.head _) ?_
      have : (Nat.gcd a'.toNat b'.toNat) = a'.toNat := by rw [h0]; simp
      rw [this] at hg
      have e : a' = (Nat.gcd a.toNat b.toNat : Int) := by rw [← hg]; omega
      rw [e]; exact h
end
section
set_option maxHeartbeats 1000000 in
theorem drawn_spec {k : Nat} {ns : List Int} {H : Own} {P : AV → Own → Prop} (hl : ns.length ≤ 63) (h : ∀ d : List Int, d.length = 5 → (∀ x ∈ d, 0 ≤ x ∧ x ≤ 1000000000) → P (.lst (d.map AV.int)) H) :
    AF (k + 1) (.ref 276) [.blst (ns.map AV.int)] H P := by
  refine AF_freeze (AF_def (ds := []) ["script"] ["drawn", "k"] [("script", some (.blst (ns.map AV.int))), ("drawn", none), ("k", none)] (fun w => by rfl) (fun w => by rfl) rfl (by decide) ?_ (by decide +kernel) ?_ (by decide))
  · intro w s args' hl hk
    obtain ⟨x, rfl⟩ := ln1 hl
    exact ⟨[], BindsTo.of_eq rfl, fun _ _ => .nil⟩
  · intro w os base outer A₀ A h₀ L X Y c G
    refine ASs_cons (AS_assign (AE_list ?_))
    refine AEs_cons ?_; refine AE_int ?_; refine AEs_cons ?_; refine AE_int ?_; refine AEs_cons ?_; refine AE_int ?_; refine AEs_cons ?_; refine AE_int ?_; refine AEs_cons ?_; refine AE_int ?_; refine AEs_nil ?_
    refine ⟨by simp, fun q => ?_⟩
    (with_reducible refine St1_local (by assumption) (by with_reducible repeat first | exact SetL.head | apply SetL.tail) ?_)
    refine ASs_cut (fun l H1 => ∃ (d : List Int) (kk : Option AV), d.length = 5 ∧ (∀ x ∈ d, 0 ≤ x ∧ x ≤ 1000000000) ∧ H1 = (q, .list (d.map AV.int)) :: H ∧ l = [("script", some (.blst (ns.map AV.int))), ("drawn", some (.ref q)), ("k", kk)]) (AS_for G (AE_callt "range" ?_)) ?_
    with_reducible refine AE_builtin (by assumption) (fun _ => by with_unfolding_all rfl) (by with_unfolding_all rfl) (by decide) (by with_unfolding_all rfl) ?_
    refine ⟨rfl, AEs_cons (AE_callb "len" ?_)⟩
    with_reducible refine AE_builtin (by assumption) (fun _ => by with_unfolding_all rfl) (by with_unfolding_all rfl) (by decide) (by with_unfolding_all rfl) ?_
    refine ⟨rfl, ?_⟩
    refine AEs_cons ?_; refine AE_local (by assumption) (.head _) ?_; refine AEs_nil ?_
    refine OpCall_len_blst G (by simp; omega) ?_
    refine AEs_nil ?_
    refine OpCall_range1 ⟨_, It_up (by decide) (by decide) (by omega) (by simp; omega), fun i l H1 => ∃ (d : List Int) (kk : Option AV), d.length = 5 ∧ (∀ x ∈ d, 0 ≤ x ∧ x ≤ 28 + (i : Int) * 1000000) ∧ H1 = (q, .list (d.map AV.int)) :: H ∧ l = [("script", some (.blst (ns.map AV.int))), ("drawn", some (.ref q)), ("k", kk)], ?_, ?_, ?_⟩
    · exact ⟨[3, 2, 2, 2, 28], _, rfl, by decide, rfl, rfl⟩
    · rintro X Y i x l H1 hx ⟨d, kk, hd, hb, rfl, rfl⟩
      have G' := G.wX (X := X) (Y := Y)
      have hi : i < ns.length := by
        have := (List.getElem?_eq_some_iff.mp hx).1
        simpa using this
      have ex : x = .int i := by
        rw [List.getElem?_map, List.getElem?_range (by simpa using hi)] at hx
        simp at hx; rw [← hx]
      subst ex
      refine As1_name ?_
      (with_reducible refine St1_local (by assumption) (by with_reducible repeat first | exact SetL.head | apply SetL.tail) ?_)
      refine ASs_cons (AS_augsub ?_)
      refine AE_local (by assumption) (mi 1 rfl) ?_; refine AE_binop ?_; refine AE_local (by assumption) (mi 2 rfl) ?_; refine AE_int ?_
      refine OpB_mod (by decide) ?_
      have e1 : ((i : Int).fmod 5) = ((i % 5 : Nat) : Int) := by rw [Int.fmod_eq_emod_of_nonneg _ (by decide)]; omega
      rw [e1]
      have hj : i % 5 < d.length := by omega
      generalize i % 5 = j at hj
      refine OpG_own (j := 0) List.mem_cons_self (by omega) (by omega) (x := .int d[j]) (by rw [Int.toNat_natCast, List.getElem?_map, List.getElem?_eq_getElem hj]; rfl) ?_
      refine AE_binop ?_; refine AE_subg ?_; refine AE_local (by assumption) (.head _) ?_; refine AE_local (by assumption) (mi 2 rfl) ?_
      refine ⟨NoPy_blst G', OpG_blst G' (by omega) (by omega) (x := .int ns[i]) (by simp [hi]) ?_⟩
      refine AE_int ?_
      refine OpB_mod (by decide) ?_
      refine OpI_add ?_
      have e2 : ((ns[i]).fmod 1000000) = ns[i] % 1000000 := Int.fmod_eq_emod_of_nonneg _ (by decide)
      rw [e2]
      refine OpS_own (l := d.map AV.int) (H' := (q, .list ((d.set j (d[j] + ns[i] % 1000000)).map AV.int)) :: H) ?_ (by omega) (by omega) (by simp; omega) ?_
      · rw [List.map_set, Int.toNat_natCast]; exact At.head
      · refine ASs_nil ⟨_, _, by simpa using hd, fun x hx => ?_, rfl, rfl⟩
        have hm := hb _ (List.getElem_mem hj)
        rcases List.mem_or_eq_of_mem_set hx with h | h
        · have := hb x h; omega
        · omega
    · rintro l H1 ⟨d, kk, hd, hb, rfl, rfl⟩
      refine ASs_nil ⟨rfl, d, kk, hd, fun x hx => ⟨(hb x hx).1, Int.le_trans (hb x hx).2 ?_⟩, rfl, rfl⟩
      simp; omega
    · rintro l H1 ⟨d, kk, hd, hb, rfl, rfl⟩
      refine ASs_cons (AS_return ?_)
      refine AE_local (by assumption) (mi 1 rfl) ?_
      exact ⟨q, _, _, rfl, rfl, h d hd hb⟩
end
section
theorem looksOn {α : Type} {M : Model} {A : Around} {t : Sem α} {r : α} {Q : α → Shared → Prop} {E : Value → Shared → Prop} {h : Heap} {s : Shared} (x : Looks M h t r) (k : ∀ b o, h.get? b = some o → s.heap.get? b = some o) (q : Q r s) : wpAny M A t Q E s := x A Q E s k q
structure BelowList (id n : String) (B : Builtin) : Prop where
  split : splitId id = some ("list", n)
  kind : (Manifest.find? "list").bind (·.attrs.lookup n) = some .slot ∨ (Manifest.find? "list").bind (·.attrs.lookup n) = some .method
  plain : plainId id = true
  entry : entryFor table id = some B
section
variable {c : Cx} {A : Around} {E : Value → Shared → Prop} {s : Shared} {a : Addr} {ox : Obj} {od : Option Obj} {id n : String} {B : Builtin} {rest : List Value}
theorem below_check {w : World} {Q : Unit → Shared → Prop} (S : BelowList id n B) (X : (KF w).In s.heap) (I : W.InstAt s.heap a ox CAcc od) (ha : argsOk id ⟨.ref a :: rest, []⟩) (h : Q () s) :
    wpAny (model pg w) A (checkBuiltinCall id ⟨.ref a :: rest, []⟩) Q E s := by
  have hk : builtinKind id = (Manifest.find? "list").bind (·.attrs.lookup n) := by simp only [builtinKind, S.split]
  have L : Looks (model pg w) s.heap (isInstance (.ref a) (.type "list")) true := I.type.andThen (looks_subIn X (by kernel_rfl))
  rcases S.kind with q | q <;>
  · simp only [checkBuiltinCall, hk, q, S.split]
    refine wpAny_bind (L.here ?_)
    simp only [Bool.not_true, Bool.false_eq_true, if_false]
    cases hsig : Manifest.signature? id with
    | none => exact wpAny_pure h
    | some sig =>
      simp only [argsOk, hsig] at ha
      have h2 : Bind.checkArgs id sig ⟨.ref a :: rest, []⟩ = pure () := ha
      show wpAny _ A (Bind.checkArgs id sig ⟨.ref a :: rest, []⟩) Q E s
      rw [h2]; exact wpAny_pure h
theorem below_call {w : World} {Q : Value → Shared → Prop} (S : BelowList id n B) (X : (KF w).In s.heap) (I : W.InstAt s.heap a ox CAcc od) (ha : argsOk id ⟨.ref a :: rest, []⟩)
    (h : wpAny (model pg w) A.in1 (B ⟨.ref a :: rest, []⟩) (fun fin s' => ∃ v, fin = .done (.ret v) ∧ Q v s') E s) :
    wpAny (model pg w) A (call (.builtin id) (.ref a :: rest)) Q E s :=
  wpAny_call (codeAny_call_builtin S.plain S.entry (below_check S X I ha (wpAny_mono h (fun fin s' ⟨v, e, q⟩ => by subst e; exact q) fun _ _ e => e)))
theorem S_append : BelowList "list.append" "append" Builtin.«list.append» := ⟨by kernel_rfl, .inr (by kernel_rfl), by decide +kernel, PySem.F.entry_list_append⟩
theorem S_getitem : BelowList "list.__getitem__" "__getitem__" Builtin.«list.__getitem__» := ⟨by kernel_rfl, .inr (by kernel_rfl), by decide +kernel, entry_list_getitem⟩
theorem S_setitem : BelowList "list.__setitem__" "__setitem__" Builtin.«list.__setitem__» := ⟨by kernel_rfl, .inl (by kernel_rfl), by decide +kernel, entry_list_setitem⟩
theorem S_iter : BelowList "list.__iter__" "__iter__" Builtin.«list.__iter__» := ⟨by kernel_rfl, .inl (by kernel_rfl), by decide +kernel, entry_list_iter⟩
theorem S_ga : BelowList "list.__getattribute__" "__getattribute__" Builtin.«object.__getattribute__» := ⟨by kernel_rfl, .inl (by kernel_rfl), by decide +kernel, entryFor_alias (id' := "object.__getattribute__") (by kernel_rfl) (by decide +kernel) (by decide +kernel) (by kernel_rfl)⟩
end
section
variable {c : Cx} {loc : Loc} {H H' : Own} {T : Tmp} {s : Shared} {N es : Led} {m : Str → Option Value} {a : Addr} {ini : Int} {l : List (Str × Str)} {k : Nat}
structure AccAt (c : Cx) (s : Shared) (N : Led) (a : Addr) (ini : Int) (l : List (Str × Str)) (dx : Addr) (vs : List Value) (n mm : Nat) (hh : Int) (t t' : Tok) : Prop where
  I : W.InstAt s.heap a (accO CAcc dx vs n) CAcc (some (dictOf [⟨hh, .str (Str.ofString "_initial_size") t, .int ini t'⟩] mm))
  v : VRs c.base N (l.map pairAV) vs
inductive HasAcc (c : Cx) (s : Shared) (N : Led) (a : Addr) (ini : Int) (l : List (Str × Str)) : Prop
  | intro (dx : Addr) (vs : List Value) (n mm : Nat) (hh : Int) (t t' : Tok) (Z : AccAt c s N a ini l dx vs n mm hh t t')
theorem RepW.accAt (R : RepW c loc H T s N es m) (hm : (a, AO.acc ini l) ∈ H) : HasAcc c s N a ini l := by
  obtain ⟨e, ho, he⟩ := R.get hm
  obtain ⟨dx, vs, n, mm, hh, t, t2, rfl, hv⟩ := ho.acc_inv
  exact ⟨_, _, _, _, _, _, _, ⟨⟨(R.nw _ (he _ (.head _))).1, rfl, rfl, (R.nw _ (he _ (.tail _ (.head _)))).1⟩, hv⟩⟩
theorem RepW.KI (R : RepW c loc H T s N es m) (G : c.Good k) : (KF c.w).In s.heap := G.K.keeps R.F.keep
theorem getL_other {name : String} {hh : Int} {t : Tok} {v : Value} (hne : name ≠ "_initial_size") : getL (Str.ofString name) [⟨hh, .str (Str.ofString "_initial_size") t, v⟩] = some none := by
  have : (Value.str (Str.ofString "_initial_size") t).isStr (Str.ofString name) = false := by
    show (Str.ofString "_initial_size" == Str.ofString name) = false
    rw [beq_eq_false_iff_ne]
    exact fun e => hne (ofString_inj e).symm
  simp [getL, this, DictEntry.refKey]
theorem getL_ini {hh : Int} {t : Tok} {v : Value} : getL (Str.ofString "_initial_size") [⟨hh, .str (Str.ofString "_initial_size") t, v⟩] = some (some v) := by
  have : (Value.str (Str.ofString "_initial_size") t).isStr (Str.ofString "_initial_size") = true := by
    show (Str.ofString "_initial_size" == Str.ofString "_initial_size") = true
    simp
  simp [getL, this]
theorem OpMeth_acc {name : String} {f ty : Value} (G : c.Good k) (hm : (a, AO.acc ini l) ∈ H) (hne : name ≠ "_initial_size") (hf : ∀ w, findIn (KF w) (.ref CAcc) (Str.ofString name) = some (some f)) (ht : ∀ w (s : Shared), (KF w).In s.heap → Looks (model pg w) s.heap (typeOf f) ty)
    (hty : (ty != .type "function" && ty != .type "method_descriptor" && ty != .type "wrapper_descriptor") = false) : OpMeth c (.ref a) (Str.ofString name) f loc H := fun T s v' pl R m1 Q E h => by
  rw [R.isRef m1] at h ⊢
  obtain ⟨N, es, m, R⟩ := R
  obtain ⟨dx, vs, n, mm, hh, t, t', Z⟩ := R.accAt hm
  have X := R.KI G
  have L0 := Z.I.type (M := model pg c.w)
  unfold getMethod specialOf
  refine wpAny_bind (wpAny_bind (L0.here ((looks_findIn X (r := some (.builtin "list.__getattribute__")) (by kernel_rfl)).here ?_)))
  show wpAny _ _ (if (Manifest.canonical "list.__getattribute__" != "object.__getattribute__") = true then _ else _) Q E s
  rw [canon_list_getattribute, if_neg Bool.false_ne_true]
  refine wpAny_bind (wpAny_bind (L0.here ((looks_findIn X (r := none) (by kernel_rfl)).here ?_)))
  refine wpAny_bind (wpAny_bind (L0.here ((looks_findIn X (hf c.w)).here (wpAny_bind ((ht c.w s X).here ?_)))))
  rw [hty, if_neg Bool.false_ne_true]
  refine wpAny_bind (wpAny_loadPart Z.I.at_ ?_)
  refine wpAny_bind (wpAny_bind (wpAny_loadPart Z.I.dict ?_))
  rw [nsLook_of (show lookIn (Str.ofString name) (dictOf [⟨hh, .str (Str.ofString "_initial_size") t, .int ini t'⟩] mm) = some none from getL_other hne)]
  exact wpAny_pure (wpAny_bind (wpAny_rule (wpAny_pure (h s.toks))))
theorem OpMeth_accf {name : String} {f : Addr} (G : c.Good k) (hm : (a, AO.acc ini l) ∈ H) (hne : name ≠ "_initial_size") (hf : ∀ w, findIn (KF w) (.ref CAcc) (Str.ofString name) = some (some (.ref f))) (ht : ∀ w, typeIn (KF w) (.ref f) = some (.type "function")) :
    OpMeth c (.ref a) (Str.ofString name) (.ref f) loc H := OpMeth_acc G hm hne hf (fun w s X => looks_typeIn X (ht w)) (by decide)
theorem OpMeth_accb {name id : String} (G : c.Good k) (hm : (a, AO.acc ini l) ∈ H) (hne : name ≠ "_initial_size") (hf : ∀ w, findIn (KF w) (.ref CAcc) (Str.ofString name) = some (some (.builtin id))) (ht : typeOf (.builtin id) = pure (.type "method_descriptor")) :
    OpMeth c (.ref a) (Str.ofString name) (.builtin id) loc H := OpMeth_acc G hm hne hf (fun w s X => Looks.of_pure ht) (by decide)
end
end
section
inductive SOut (c : Cx) (loc : Loc) (T : Tmp) (P : Option Int → Own → Prop) (v : Value) (s' : Shared) : Prop
  | intro (x : Option Int) (H : Own) (T' : Tmp) (R : Rep c loc H T' s') (a : IsPart v x) (h : ∀ p ∈ T, p ∈ T') (p : P x H)
theorem thenS {c : Cx} {loc : Loc} {T : Tmp} {s : Shared} {t : Sem Value} {P : Option Int → Own → Prop} {Q : Value → Shared → Prop} {E : Value → Shared → Prop} (h : wpAny (model pg c.w) c.A t (SOut c loc T P) EF s) (k : ∀ v' s' x H T', Rep c loc H T' s' → IsPart v' x → (∀ p ∈ T, p ∈ T') → P x H → Q v' s') : wpAny (model pg c.w) c.A t Q E s :=
  wpAny_mono h (fun v' s' o => SOut.casesOn o fun vs H T' R a h p => k v' s' vs H T' R a h p) fun _ _ e => False.elim e
noncomputable def AEO (c : Cx) (env : Env) (e : Option Expr) (loc : Loc) (H : Own) (P : Option Int → Own → Prop) : Prop := ∀ T s, Rep c loc H T s →
  wpAny (model pg c.w) c.A (valueOrNone (evalOpt e env)) (SOut c loc T P) EF s
section
variable {c : Cx} {env : Env} {loc loc' : Loc} {H H' : Own} {P : AV → Own → Prop} {T : Tmp} {s : Shared} {v' : Value} {i : Int} {x : Str} {b : Bool} {a : Addr} {k : Nat} {pos : Pos}
theorem AEO_none {P : Option Int → Own → Prop} (h : P none H) : AEO c env none loc H P := fun T s R => wpAny_pure ⟨none, H, T, R, .none, fun p hp => hp, h⟩
theorem AEO_some {e : Expr} {P : Option Int → Own → Prop} (h : AE c env e loc H fun v H1 => ∃ i, v = .int i ∧ P (some i) H1) : AEO c env (some e) loc H P := fun T s R => by
  have e1 : valueOrNone (evalOpt (some e) env) = eval e env := by rfl
  rw [e1]
  refine thenW (h T s R) fun v' s1 v H1 R1 ⟨i, hv, h1⟩ => ?_
  subst hv
  obtain ⟨t, rfl⟩ := R1.isInt (.head _)
  exact ⟨some i, H1, _, R1, .int i t, fun p hp => .tail _ hp, h1⟩
theorem AE_slice {lo hi st : Option Expr} (h : AEO c env lo loc H fun x H1 => AEO c env hi loc H1 fun y H2 => AEO c env st loc H2 fun z H3 => P (.slc x y z) H3) : AE c env (.Slice lo hi st pos) loc H P := fun T s R => by
  have e1 : eval (.Slice lo hi st pos) env = (do
    let l ← valueOrNone (evalOpt lo env)
    let u ← holding [l] (valueOrNone (evalOpt hi env))
    let s ← holding [l, u] (valueOrNone (evalOpt st env))
    newFields "slice" [l, u, s]) := by rfl
  unfold W
  rw [e1]
  refine wpAny_bind (thenS (h T s R) fun l s1 x H1 T1 R1 p1 q1 h1 => ?_)
  refine wpAny_bind (wpAny_holding (thenS (h1 _ _ R1) fun u s2 y H2 T2 R2 p2 q2 h2 => ?_))
  refine wpAny_bind (wpAny_holding (thenS (h2 _ _ R2) fun st' s3 z H3 T3 R3 p3 q3 h3 => ?_))
  unfold newFields
  refine wpAny_newObj_type ?_
  obtain ⟨N, es, mm, R3⟩ := R3
  have R4 := R3.newN (tk := s3.toks) (R3.F.push (slcO l u st')) (News.push R3.F R3.nw _ rfl) fun p hp => Heap.lt_size (R3.nw p hp).1
  refine ⟨_, _, ((R4.put (.slc (.head _) p1 p2 p3)).sub fun p hp => ?_).rep, h3⟩
  rcases List.mem_cons.mp hp with rfl | hp
  · exact .head _
  · exact .tail _ (q3 _ (q2 _ (q1 _ hp)))
end
section
variable {c : Cx} {A : Around} {E : Value → Shared → Prop} {s : Shared} {a : Addr} {ox : Obj} {od : Option Obj} {id n : String} {B : Builtin} {rest : List Value}
theorem below_special {w : World} {name : Str} {Q : Option Value → Shared → Prop} (S : BelowList id n B) (X : (KF w).In s.heap) (I : W.InstAt s.heap a ox CAcc od) (hf : findIn (KF w) (.ref CAcc) name = some (some (.builtin id)))
    (hb : bindSpecial (.builtin id) (.ref a) = pure (.builtin id, [.ref a])) (ha : argsOk id ⟨.ref a :: rest, []⟩)
    (h : wpAny (model pg w) A.in1 (B ⟨.ref a :: rest, []⟩) (fun fin s' => ∃ v, fin = .done (.ret v) ∧ Q (some v) s') E s) :
    wpAny (model pg w) A (callSpecial? (.ref a) name rest) Q E s := by
  unfold callSpecial? specialOf
  refine wpAny_bind (wpAny_bind (looksOn I.type (fun _ _ e => e) (looksOn (looks_findIn X hf) (fun _ _ e => e) (wpAny_holding (wpAny_bind ?_)))))
  rw [hb]
  refine wpAny_pure (wpAny_bind ?_)
  exact wpAny_mono (below_call (E := E) (Q := fun v => Q (some v)) S X I ha h) (fun v s' h' => wpAny_pure h') fun _ _ e => e
theorem seqKey_acc {w : World} {name : Str} {kv : Value} {Q : Value → Shared → Prop} (X : (KF w).In s.heap) (I : W.InstAt s.heap a ox CAcc od) (h : Q kv s) : wpAny (model pg w) A (sequenceKey (.ref a) kv name) Q E s := by
  unfold sequenceKey
  refine wpAny_bind (looksOn I.type (fun _ _ e => e) ?_)
  show wpAny _ _ (seqItemTypes.anyM (fun n => isSubtype (.ref CAcc) (.type n)) >>= _) Q E s
  refine wpAny_bind ?_
  show wpAny _ _ (isSubtype (.ref CAcc) (.type "collections.deque") >>= _) _ E s
  refine wpAny_bind (looksOn (looks_subIn X (r := false) (by kernel_rfl)) (fun _ _ e => e) ?_)
  exact wpAny_pure (wpAny_pure h)
end
theorem bind_getitem (self : Value) : bindSpecial (.builtin "list.__getitem__") self = pure (.builtin "list.__getitem__", [self]) := slot_list_getitem.bind self
theorem bind_setitem (self : Value) : bindSpecial (.builtin "list.__setitem__") self = pure (.builtin "list.__setitem__", [self]) := slot_list_setitem.bind self
theorem bind_iter (self : Value) : bindSpecial (.builtin "list.__iter__") self = pure (.builtin "list.__iter__", [self]) := slot_list_iter.bind self
end
section
section
variable {c : Cx} {env : Env} {loc loc' : Loc} {H H' : Own} {P : AV → Own → Prop} {T : Tmp} {s : Shared} {N es : Led} {m : Str → Option Value} {v' : Value} {i ini : Int} {x : Str} {b : Bool} {a : Addr} {l : List (Str × Str)} {k : Nat} {pos : Pos}
theorem VRs.pairs {B : Heap} {N : Led} {vs : List Value} (h : VRs B N (l.map pairAV) vs) : vs.length = l.length := by rw [h.length]; simp
inductive HasUpdG (c : Cx) (loc : Loc) (H' : Own) (T : Tmp) (s : Shared) (N : Led) (a : Addr) (o o' : AO) : Prop
  | intro (e : Led) (h : OR c.base N a o e) (g : ∀ p ∈ e, s.heap.get? p.1 = some p.2) (k : ∀ e1 d ob e2, e = e1 ++ (d, ob) :: e2 → ∀ (f : Obj → Obj) ob' tk, f ob = ob' → ob'.isFreed = false →
    OR c.base N a o' (e1 ++ (d, ob') :: e2) → Rep c loc H' T { s with heap := s.heap.update d f, toks := tk })
theorem RepW.updG (R : RepW c loc H T s N es m) {o o' : AO} (U : At a o o' H H') : HasUpdG c loc H' T s N a o o' := by
  obtain ⟨e, ho, kk⟩ := R.upd U
  refine ⟨e, ho, fun p hp => ?_, ?_⟩
  · obtain ⟨e1, e2, rfl⟩ := List.append_of_mem hp
    obtain ⟨Pr, Po, e1', q1, q2, fin⟩ := kk e1 p.1 p.2 e2 rfl
    exact (R.nw p (by rw [e1']; simp)).1
  · rintro e1 d ob e2 rfl f ob' tk hf hfr ho'
    obtain ⟨Pr, Po, e1', q1, q2, fin⟩ := kk e1 d ob e2 rfl
    have nw := R.nw
    rw [e1'] at nw
    obtain ⟨F', N'⟩ := news_upd R.F nw q1 q2 hf hfr
    exact fin ob' _ tk ho' F' N'
theorem mapSeq_acc {f : Array Value → Array Value} {C dx : Addr} {vs vs' : List Value} {n : Nat} (h : f vs.toArray = vs'.toArray) : ∃ n', Obj.mapSeq f (accO C dx vs n) = accO C dx vs' n' := by
  refine ⟨if (f vs.toArray).size == vs.toArray.size then n else n + 1, ?_⟩
  show ({ cls := _, dict := _, data := .seq (f vs.toArray) (if (f vs.toArray).size == vs.toArray.size then n else n + 1) } : Obj) = _
  rw [h]
inductive AccUpd (c : Cx) (loc : Loc) (H' : Own) (T : Tmp) (s : Shared) (N : Led) (a : Addr) (ini : Int) (l l' : List (Str × Str)) : Prop
  | intro (dx : Addr) (vs : List Value) (n mm : Nat) (hh : Int) (t t' : Tok) (Z : AccAt c s N a ini l dx vs n mm hh t t')
      (k : ∀ (f : Array Value → Array Value) vs' tk, f vs.toArray = vs'.toArray → VRs c.base N (l'.map pairAV) vs' → Rep c loc H' T { s with heap := s.heap.update a (Obj.mapSeq f), toks := tk })
theorem RepW.accUpd (R : RepW c loc H T s N es m) {l' : List (Str × Str)} (U : At a (.acc ini l) (.acc ini l') H H') : AccUpd c loc H' T s N a ini l l' := by
  obtain ⟨e, ho, hg, kk⟩ := R.updG U
  obtain ⟨dx, vs, n, mm, hh, t, t', rfl, hv⟩ := ho.acc_inv
  · refine ⟨dx, vs, n, mm, hh, t, t', ⟨⟨hg _ (.head _), rfl, rfl, hg _ (.tail _ (.head _))⟩, hv⟩, fun f vs' tk hf hv' => ?_⟩
    obtain ⟨n', e'⟩ := mapSeq_acc (C := CAcc) (dx := dx) (n := n) hf
    exact kk [] a _ _ rfl _ _ tk e' rfl (.acc hv')
theorem OpG_acc {p : Str × Str} (G : c.Good k) (hm : (a, AO.acc ini l) ∈ H) (h0 : 0 ≤ i) (hi : i < 2 ^ 62) (hx : l[i.toNat]? = some p) (h : P (pairAV p) H) : OpG c (.ref a) (.int i) loc H P := fun T s v1' v2' R m1 m2 => by
  obtain ⟨t, rfl⟩ := R.isInt m2
  rw [R.isRef m1]
  obtain ⟨N, es, m, R⟩ := R
  obtain ⟨dx, vs, n, mm, hh, t1, t2, Z⟩ := R.accAt hm
  have X := R.KI G
  obtain ⟨u, hu, hr⟩ := Z.v.get (i := i.toNat) (x := pairAV p) (by rw [List.getElem?_map, hx]; rfl)
  unfold W getItem
  refine wpAny_holding (wpAny_bind (seqKey_acc X Z.I (wpAny_bind ?_)))
  refine below_special S_getitem X Z.I (by kernel_rfl) (bind_getitem _) (args_list_getitem _ _) ?_
  show wpAny _ _ (Builtin.List.listSubscript? (.int i t) >>= _) _ _ s
  refine wpAny_bind (wpAny_listSubscript_int (fitsIndex_of h0 (by omega)) ?_)
  obtain ⟨j, rfl⟩ := Int.eq_ofNat_of_zero_le h0
  show wpAny _ _ ((do return (← seqItemAt a j).map (j, ·)) >>= _) _ _ s
  refine wpAny_bind (wpAny_bind (wpAny_seqItemAt Z.I.at_ rfl (wpAny_pure ?_)))
  have hu' : vs.toArray[j]? = some u := by simpa using hu
  rw [hu']
  exact wpAny_pure ⟨u, rfl, wpAny_pure ⟨_, _, (R.put hr).rep, h⟩⟩
theorem OpCall_acc_append {p : Str × Str} (G : c.Good k) (U : At a (.acc ini l) (.acc ini (l ++ [p])) H H') (hl : l.length ≤ 1000000) (h : P .none H') : OpCall c (.builtin "list.append") [.ref a, pairAV p] loc H P := fun T s vs' R hA => by
  cases hA with
  | cons m1 r =>
    cases r with
    | @cons _ v' _ _ m2 r =>
      cases r
      rw [R.isRef m1]
      obtain ⟨N, es, mm, R⟩ := R
      have X := R.KI G
      have hv2 := R.tmp _ m2
      obtain ⟨dx, vs, n, mm, hh, t1, t2, Z, kk⟩ := R.accUpd U
      have hln := Z.v.pairs
      refine below_call S_append X Z.I (args_list_append _ _) ?_
      show wpAny _ _ (updateSeq a (·.push v') >>= fun _ => ret .none) _ _ s
      refine wpAny_bind (wpAny_updateSeq Z.I.at_ rfl (wpAny_pure ⟨.none, rfl, .none, H', ?_, h⟩) (by rw [List.size_toArray, hln]; exact Nat.le_trans hl (by decide)) (by rw [Array.size_push, List.size_toArray, hln]; have : sizeLine = 2 ^ 24 := rfl; omega))
      refine (kk _ (vs ++ [v']) s.toks (by simp) ?_).none
      rw [List.map_append]
      exact Z.v.append (.cons hv2 .nil)
theorem sliceB_from {n : Nat} (h0 : 0 ≤ i) (hi : i ≤ n) : sliceBounds (some i) none none n = (i, (n : Int), 1) := by
  obtain ⟨j, rfl⟩ := Int.eq_ofNat_of_zero_le h0
  simp only [sliceBounds, Option.getD_none]
  have h1 : ¬ ((j : Int) < 0) := by omega
  simp only [h1, if_false, show (1 : Int) > 0 by decide, if_true]
  congr 1
  omega
theorem sliceB_all {n : Nat} : sliceBounds none none none n = (0, (n : Int), 1) := by simp [sliceBounds]
theorem acc_slice_parts {A : Around} {Q : Value × Value × Value → Shared → Prop} {E : Value → Shared → Prop} {q : Addr} {u v w : Value} {lo hi st : Option Int} (hq : s.heap.get? q = some (slcO u v w)) (pu : IsPart u lo) (pv : IsPart v hi) (pw : IsPart w st) (h0 : st ≠ some 0)
    (h : Q (rawPart lo, rawPart hi, rawPart st) s) : wpAny (model pg c.w) A (Builtin.List.listSliceParts (.ref q)) Q E s := by
  rw [listSliceParts_eq]
  have hstep : ¬ ((rawPart st == rawInt 0) = true) := by
    cases st with
    | none => exact Bool.false_ne_true
    | some c =>
      intro hh
      have : c = 0 := by simpa [rawPart, rawInt] using hh
      exact h0 (by rw [this])
  refine wpAny_bind (wpAny_field hq rfl (x := w) rfl (wpAny_bind (wpAny_listPart pw ?_)))
  rw [if_neg hstep]
  exact wpAny_bind (wpAny_field hq rfl (x := u) rfl (wpAny_bind (wpAny_listPart pu (wpAny_bind (wpAny_field hq rfl (x := v) rfl (wpAny_bind (wpAny_listPart pv (wpAny_pure h))))))))
theorem slice_noIndex {A : Around} {Q : Option Int → Shared → Prop} {E : Value → Shared → Prop} {q : Addr} {u v w : Value} (hq : s.heap.get? q = some (slcO u v w)) (h : Q none s) : wpAny (model pg c.w) A (Builtin.List.listSubscript? (.ref q)) Q E s := by
  unfold Builtin.List.listSubscript?
  refine wpAny_bind (wpAny_specialOf (T := "slice") ⟨_, hq, rfl⟩ slice_no_index ?_)
  simp only [Option.isNone_none, if_true]
  exact wpAny_pure h
theorem OpG_acc_from (G : c.Good k) (hm : (a, AO.acc ini l) ∈ H) (h0 : 0 ≤ i) (hi : i ≤ l.length) (hl : l.length ≤ 1000000) (h : P (.lst ((l.drop i.toNat).map pairAV)) H) : OpG c (.ref a) (.slc (some i) none none) loc H P := fun T s v1' v2' R m1 m2 => by
  rw [R.isRef m1]
  obtain ⟨N, es, m, R⟩ := R
  obtain ⟨dx, vs, n, mm, hh, t1, t2, Z⟩ := R.accAt hm
  have X := R.KI G
  have hln := Z.v.pairs
  obtain ⟨q, u, v, w, rfl, hN, p1, p2, p3⟩ := (R.tmp _ m2).slc_inv
  · have hq := (R.nw _ (List.mem_append_left _ hN)).1
    unfold W getItem
    refine wpAny_holding (wpAny_bind (seqKey_acc X Z.I (wpAny_bind ?_)))
    refine below_special S_getitem X Z.I (by kernel_rfl) (bind_getitem _) (args_list_getitem _ _) ?_
    show wpAny _ _ (Builtin.List.listSubscript? (.ref q) >>= _) _ _ s
    refine wpAny_bind (slice_noIndex hq ?_)
    show wpAny _ _ (typeOf (.ref q) >>= _) _ _ s
    refine wpAny_bind (wpAny_typeOf (T := "slice") ⟨_, hq, rfl⟩ ?_)
    rw [if_neg (by decide)]
    refine wpAny_bind (acc_slice_parts hq p1 p2 p3 (by simp) ?_)
    refine wpAny_bind (m := Builtin.List.listItems (.ref a)) ?_
    unfold Builtin.List.listItems
    refine wpAny_bind (wpAny_seqItems Z.I.at_ rfl (wpAny_pure ?_))
    refine wpAny_bind (wpAny_of_eq (sliceIndices_raw (some i) none none vs.toArray.size (by simp)) ?_)
    have e1 : (List.filterMap (fun j => vs.toArray[j]?) (sliceRange (sliceBounds (some i) none none vs.toArray.size).1 (sliceBounds (some i) none none vs.toArray.size).2.1 (sliceBounds (some i) none none vs.toArray.size).2.2)).toArray = (vs.drop i.toNat).toArray := by
      have := slicePick_from vs.toArray i.toNat (by rw [List.size_toArray, hln]; omega)
      unfold slicePick at this
      rw [Int.toNat_of_nonneg h0] at this
      simpa using this
    refine wpAny_bind (wpAny_newObj_type (wpAny_pure ⟨_, rfl, wpAny_pure ?_⟩) (by
      show (List.filterMap _ _).toArray.size ≤ _
      erw [e1]
      rw [List.size_toArray, List.length_drop, hln]
      have : sizeLine = 2 ^ 24 := rfl
      omega))
    have e2 : ({ cls := Value.type "list", data := .seq (List.filterMap (fun j => vs.toArray[j]?) (sliceRange (sliceBounds (some i) none none vs.toArray.size).1 (sliceBounds (some i) none none vs.toArray.size).2.1 (sliceBounds (some i) none none vs.toArray.size).2.2)).toArray } : Obj) = W.listOf (vs.drop i.toNat).toArray 0 := by rw [e1]
    erw [e2]
    have R2 := R.newN (tk := s.toks) (R.F.push (W.listOf (vs.drop i.toNat).toArray 0)) (News.push R.F R.nw _ rfl) fun p hp => Heap.lt_size (R.nw p hp).1
    refine ⟨_, _, (R2.put (.lst (.head _) ?_)).rep, h⟩
    rw [List.map_drop]
    exact (Z.v.monoN fun p hp => .tail _ hp).drop _
theorem NoPy_acc (G : c.Good k) (hm : (a, AO.acc ini l) ∈ H) : NoPy c (.ref a) loc H := fun T s v' R m1 Q E h => by
  rw [R.isRef m1]
  obtain ⟨N, es, m, R⟩ := R
  obtain ⟨dx, vs, n, mm, hh, t1, t2, Z⟩ := R.accAt hm
  unfold getitemInPython specialOf
  exact wpAny_bind (wpAny_bind (looksOn Z.I.type (fun _ _ e => e) (looksOn (looks_findIn (R.KI G) (r := some (.builtin "list.__getitem__")) (by kernel_rfl)) (fun _ _ e => e) (wpAny_pure h))))
theorem takeDrop_extract {α : Type} (l : List α) (ys : List α) (j : Nat) : (l.toArray.extract 0 j ++ ys.toArray ++ l.toArray.extract l.length l.toArray.size) = (l.take j ++ ys).toArray := by
  apply Array.toList_inj.mp
  simp
theorem OpS_acc_slice {lo : Option Int} {j : Nat} {ys : List (Str × Str)} {Q : Own → Prop} (G : c.Good k) (U : At a (.acc ini l) (.acc ini (l.take j ++ ys)) H H') (hlo : (lo = none ∧ j = 0) ∨ lo = some (j : Int)) (hj : j ≤ l.length) (hl : l.length ≤ 1000000) (hy : ys.length ≤ 1000000) (h : Q H') :
    OpS c (.ref a) (.slc lo none none) (.lst (ys.map pairAV)) loc H Q := fun T s v1' v2' v3' R m1 m2 m3 => by
  rw [R.isRef m1]
  obtain ⟨N, es, m, R⟩ := R
  have X := R.KI G
  obtain ⟨dx, vs, n, mm, hh, t1, t2, Z, kk⟩ := R.accUpd U
  have hln := Z.v.pairs
  obtain ⟨q, u, v, w, rfl, hN, p1, p2, p3⟩ := (R.tmp _ m2).slc_inv
  · have hq := (R.nw _ (List.mem_append_left _ hN)).1
    obtain ⟨y, us, nn, rfl, hN2, hv2⟩ := (R.tmp _ m3).lst_inv
    · have hyo := (R.nw _ (List.mem_append_left _ hN2)).1
      have hus : us.length = ys.length := by rw [hv2.length]; simp
      unfold setItem
      refine wpAny_holding (wpAny_bind (seqKey_acc X Z.I (wpAny_bind ?_)))
      refine below_special S_setitem X Z.I (by kernel_rfl) (bind_setitem _) (by unfold argsOk; kernel_rfl) ?_
      show wpAny _ _ (Builtin.List.listSubscript? (.ref q) >>= _) _ _ s
      refine wpAny_bind (slice_noIndex hq ?_)
      show wpAny _ _ (typeOf (.ref q) >>= _) _ _ s
      refine wpAny_bind (wpAny_typeOf (T := "slice") ⟨_, hq, rfl⟩ ?_)
      rw [if_neg (by decide)]
      refine wpAny_bind (acc_slice_parts hq p1 p2 p3 (by simp) ?_)
      have hne : a ≠ y := by
        rintro rfl
        have := Z.I.at_
        rw [hyo] at this
        exact absurd (congrArg Obj.cls (Option.some.inj this)) (by simp)
      have hsr : ¬ (Builtin.List.listSameRef (.ref a) (.ref y) = true) := by simp [Builtin.List.listSameRef, hne]
      show wpAny _ _ (if Builtin.List.listSameRef (.ref a) (.ref y) = true then _ else _) _ _ s
      rw [if_neg hsr]
      refine wpAny_bind (m := Builtin.List.listAllItems (.ref y) "must assign iterable to extended slice") ?_
      unfold Builtin.List.listAllItems
      refine wpAny_bind (wpAny_typeOf (T := "list") ⟨_, hyo, rfl⟩ ?_)
      rw [if_pos (by decide)]
      unfold Builtin.List.listItems
      refine wpAny_bind (wpAny_seqItems hyo rfl (wpAny_pure ?_))
      refine wpAny_bind (m := Builtin.List.listItems (.ref a)) ?_
      unfold Builtin.List.listItems
      refine wpAny_bind (wpAny_seqItems Z.I.at_ rfl (wpAny_pure ?_))
      refine wpAny_bind (wpAny_of_eq (sliceIndices_raw lo none none vs.toArray.size (by simp)) ?_)
      have e1 : sliceBounds lo none none vs.toArray.size = ((j : Int), (l.length : Int), 1) := by
        rw [List.size_toArray, hln]
        rcases hlo with ⟨rfl, rfl⟩ | rfl
        · exact sliceB_all
        · exact sliceB_from (by omega) (by omega)
      rw [e1]
      have sz : sizeLine = 2 ^ 24 := rfl
      refine wpAny_bind (wpAny_rule ?_)
      have e2 : Builtin.List.listTooLong (vs.toArray.size + us.toArray.size) = false := by
        have : vs.toArray.size + us.toArray.size ≤ sizeLine := by rw [List.size_toArray, List.size_toArray, hln, hus]; omega
        unfold Builtin.List.listTooLong
        first
          | simpa using this
          | (simp; omega)
      have e3 : ((max (j : Int) (l.length : Int)).toNat) = l.length := by omega
      simp only [e2, Bool.false_eq_true, if_false, e3, Int.toNat_natCast]
      have ex : (vs.toArray.extract 0 j ++ us.toArray ++ vs.toArray.extract l.length vs.toArray.size) = (vs.take j ++ us).toArray := by rw [← hln]; exact takeDrop_extract vs us j
      show wpAny _ _ (updateSeq a (fun xs => xs.extract 0 j ++ us.toArray ++ xs.extract l.length xs.size) >>= _) _ _ s
      refine wpAny_bind (wpAny_updateSeq Z.I.at_ rfl ?_ (by rw [List.size_toArray, hln]; omega) (by
        show (vs.toArray.extract 0 j ++ us.toArray ++ vs.toArray.extract l.length vs.toArray.size).size ≤ _
        rw [ex, List.size_toArray, List.length_append, List.length_take, hus]; omega))
      refine wpAny_bind (wpAny_letGo (wpAny_pure ⟨.none, rfl, wpAny_pure ⟨H', ?_, h⟩⟩))
      refine kk _ (vs.take j ++ us) s.toks ex ?_
      rw [List.map_append, List.map_take]
      exact (Z.v.take j).append hv2
end
end
section
noncomputable abbrev INI : Str := Str.ofString "_initial_size"
section
variable {c : Cx} {A : Around} {env : Env} {loc loc' : Loc} {H H' : Own} {P : AV → Own → Prop} {T : Tmp} {s : Shared} {N es : Led} {m : Str → Option Value} {v' : Value} {i ini : Int} {x : Str} {b : Bool} {a : Addr} {l : List (Str × Str)} {k : Nat} {pos : Pos}
theorem refuse_acc (self : Value) : refuseLoop self "__setattr__" [.ref CAcc, .type "list", .type "object"] = pure () := by
  rw [refuseLoop_ref]
  kernel_rfl
theorem acc_setini {w : World} {ox : Obj} {dx : Addr} {des : List DictEntry} {n : Nat} {v : Value} {Q : Unit → Shared → Prop} {E : Value → Shared → Prop} (X : (KF w).In s.heap) (I : W.InstAt s.heap a ox CAcc (some (dictOf des n))) (hd : ox.dict = some dx) (hD : s.heap.get? dx = some (dictOf des n))
    (hg : (getL INI des).isSome = true) (hz : (putL INI (PyData.keyHash w.params INI) (.str INI (s.toks + 1)) v des).length ≤ 1000)
    (h : Q () { s with heap := s.heap.update dx (Obj.putName INI (PyData.keyHash w.params INI) (.str INI (s.toks + 1)) v), toks := s.toks + 2 }) :
    wpAny (model pg w) A (setAttr (.ref a) INI v) Q E s := by
  refine set_plain X I (by kernel_rfl) ?_
  have SF := PySem.F.store_object
  obtain ⟨cd, hc, ho⟩ := any_some (show (clsIn (KF w) CAcc).any (fun cd => cd.mro == [.ref CAcc, .type "list", .type "object"] && cd.hasDict) = true by kernel_rfl)
  obtain ⟨ho, hdict⟩ := Bool.and_eq_true_iff.mp ho
  have ho : cd.mro = [.ref CAcc, .type "list", .type "object"] := beq_iff_eq.mp ho
  have X' : (KF w).In ({ s with toks := s.toks + 1 } : Shared).heap := X
  have I' : W.InstAt ({ s with toks := s.toks + 1 } : Shared).heap a ox CAcc (some (dictOf des n)) := I
  have sub : Looks (model pg w) ({ s with toks := s.toks + 1 } : Shared).heap (isInstance (.ref a) (.type "object")) true := I'.type.andThen (looks_subIn X' (by kernel_rfl))
  refine codeAny_call_builtin SF.slot.plain SF.entry (@check_slot (model pg w) _ _ { s with toks := s.toks + 1 } "object.__setattr__" "object" "__setattr__" (.ref a) [.str INI s.toks, v] [] _ SF.kind SF.split sub (SF.args (.ref a) (.str INI s.toks) v) ?_)
  have hm : Looks (model pg w) ({ s with toks := s.toks + 1 } : Shared).heap (mroOf (.ref CAcc)) cd.mro := (looks_clsIn X' hc).andThen .now
  rw [osa_eq, refuse_eq]
  refine wpAny_bind (wpAny_bind (I'.type.here (wpAny_bind (hm.here ?_))))
  rw [ho, refuse_acc]
  refine wpAny_pure (wpAny_bind (I'.type.here (wpAny_bind ((looks_findIn X' (r := none) (by kernel_rfl)).here (wpAny_bind (wpAny_pure ?_))))))
  obtain ⟨hx, hcl, hn, -⟩ := I'
  obtain ⟨oc, odi, oda, osl⟩ := ox
  dsimp only at hcl hd
  subst hcl hd
  refine wpAny_bind (wpAny_pure (wpAny_bind (wpAny_bind (wpAny_loadPart hx (wpAny_bind ((looks_clsIn X' hc).here ?_))))))
  rw [hdict]
  refine wpAny_pure (a := some dx) (wpAny_bind (wpAny_pure (wpAny_bind ?_)))
  unfold nsSet
  refine wpAny_bind (wpAny_bind (wpAny_askSetting (wpAny_pure (wpAny_bind (wpAny_mkText (wpAny_bind (wpAny_loadPart hD ?_)))))))
  have c : (!des.toArray.any (·.key.isStr INI) && des.toArray.any (·.refKey)) = false := by
    rw [← Array.any_toList, ← Array.any_toList]
    unfold getL at hg
    split at hg
    · rename_i en he
      rw [List.any_eq_true.mpr ⟨en, List.mem_of_find?_eq_some he, List.find?_some he⟩]; rfl
    · split at hg
      · cases hg
      · rename_i z; rw [Bool.not_eq_true] at z; rw [z, Bool.and_false]
  dsimp only
  rw [aRefKeyMayBeTheName_at, c]
  refine wpAny_updatePart hD ?_
  refine wpAny_bind (wpAny_lookBehind (o := dictOf (putL INI (PyData.keyHash w.params INI) (.str INI (s.toks + 1)) v des) (putN INI des n)) ?_ (by exact pastItsLine_dict (by rw [List.size_toArray, sizeLine_eq]; omega)) ?_)
  · rw [Heap.get?_update_self _ hD (by rw [putName_dict]; rfl), putName_dict]; rfl
  · exact wpAny_pure h
theorem AS_setini {e1 e : Expr} {p1 : Pos} {P : SP} (G : c.Good k) (h : AE c env e loc H fun v H1 => AE c env e1 loc H1 fun v1 H2 => ∃ i a o o' H3, v = .int i ∧ v1 = .ref a ∧ At a o o' H2 H3 ∧ ((∃ l, o = .acc0 l ∧ o' = .acc i l) ∨ (∃ j l, o = .acc j l ∧ o' = .acc i l)) ∧ P .next loc H3)
    (hs : swapsWith e (some (.Attribute e1 INI p1)) pos.line env = pure false := by first | rfl | with_unfolding_all rfl) : AS c env (.Assign [.Attribute e1 INI p1] e pos) loc H P := by
  refine AS_setattr (h.mono fun v H1 h1 => h1.mono fun v1 H2 h2 T s v' v1' R m1 m2 => ?_) hs
  obtain ⟨i, a, o, o', H3, rfl, rfl, U, hoo, hP⟩ := h2
  obtain ⟨t, rfl⟩ := R.isInt m1
  rw [R.isRef m2]
  obtain ⟨N, es, m, R⟩ := R
  have X := R.KI G
  obtain ⟨e, ho, hg, kk⟩ := R.updG U
  rcases hoo with ⟨l, rfl, rfl⟩ | ⟨j, l, rfl, rfl⟩
  · cases ho with
    | @acc0 dx _ vs n mm hv =>
      refine acc_setini X ⟨hg _ (.head _), rfl, rfl, hg _ (.tail _ (.head _))⟩ rfl (hg _ (.tail _ (.head _))) rfl (by simp [putL]) ⟨_, kk [(a, accO CAcc dx vs n)] dx _ [] rfl _ _ _ (putName_dict ..) rfl ?_, hP⟩
      exact .acc hv
  · obtain ⟨dx, vs, n, mm, hh, t1, t2, rfl, hv⟩ := ho.acc_inv
    · have e0 : (Value.str (Str.ofString "_initial_size") t1).isStr INI = true := by
        show (Str.ofString "_initial_size" == INI) = true
        simp
      refine acc_setini X ⟨hg _ (.head _), rfl, rfl, hg _ (.tail _ (.head _))⟩ rfl (hg _ (.tail _ (.head _))) (by rw [getL_ini]; rfl) (by simp only [putL, e0, if_true]; simp) ⟨_, kk [(a, accO CAcc dx vs n)] dx _ [] rfl _ _ _ (putName_dict ..) rfl ?_, hP⟩
      simp only [putL, e0, if_true]
      exact .acc hv
end
end
section
set_option maxHeartbeats 4000000
noncomputable def accMk (K : Frag) : Bool := match K.lookup CAcc with
  | some ⟨_, _, .cls cd, sl⟩ => !cd.abstract && !cd.hasDel && (sl.toList[4]?).join == some (.builtin "list.__new__") && cd.mro == [.ref CAcc, .type "list", .type "object"]
  | _ => false
theorem typ_list_new : typeHasDict (.ref CAcc) = true := by rfl
section
variable {w : World} {A : Around} {R : Result → Shared → Prop} {h : Heap} {g : Array GenState} {d : Drawn} {t : Nat} {os : OsState}
theorem accMk_of (X : (KF w).In h) : ∃ oc od cd sl, h.get? CAcc = some ⟨oc, od, .cls cd, sl⟩ ∧ cd.abstract = false ∧ cd.hasDel = false ∧ cd.mro = [.ref CAcc, .type "list", .type "object"] ∧ Looks (model pg w) h (Bind.madeBy (.ref CAcc)) (some "list.__new__") ∧ Looks (model pg w) h (Bind.staticBase (.ref CAcc)) (.ref CAcc) := by
  have e : accMk (KF w) = true := by kernel_rfl
  unfold accMk at e
  split at e
  · rename_i oc od cd sl ho
    simp only [Bool.and_eq_true, Bool.not_eq_true', beq_iff_eq] at e
    obtain ⟨⟨⟨e1, e2⟩, e3⟩, e4⟩ := e
    have hc : clsIn (KF w) CAcc = some cd := by unfold clsIn; rw [ho]
    have hm : Looks (model pg w) h (mroOf (.ref CAcc)) cd.mro := (looks_clsIn X hc).andThen .now
    have made : Looks (model pg w) h (Bind.madeBy (.ref CAcc)) (some "list.__new__") := by
      intro A Q E s k q
      unfold Bind.madeBy
      refine wpAny_bind (hm A _ E s k ?_)
      rw [e4, List.forIn_cons]
      refine wpAny_bind (wpAny_bind (wpAny_bind (wpAny_bind (wpAny_loadPart (k _ _ (X _ _ ho)) (wpAny_pure ?_)))))
      dsimp only
      rw [← Array.getElem?_toList, e3]
      exact wpAny_pure (wpAny_pure (wpAny_pure q))
    refine ⟨oc, od, cd, sl, X _ _ ho, e1, e2, e4, made, ?_⟩
    intro A Q E s k q
    unfold Bind.staticBase
    refine wpAny_bind (hm A _ E s k ?_)
    rw [e4, List.forIn_cons]
    exact wpAny_bind (wpAny_bind (wpAny_bind (made A _ E s k (wpAny_pure (wpAny_pure (wpAny_pure q))))))
  · cases e
theorem acc_new {v : Value} (X : (KF w).In h) (hq : R (.ok (.ret (.ref (h.objs.size + 1)))) ⟨(h.push emptyDict).push (accO CAcc h.objs.size [] 0), g, d, t, os⟩) :
    codeAny (model pg w) A (.call (.builtin "list.__new__") ⟨[.ref CAcc, v], []⟩) R ⟨h, g, d, t, os⟩ := by
  obtain ⟨oc, od, cd, sl, hC, e1, e2, e4, made, base⟩ := accMk_of X
  have top : Looks (model pg w) h (isSubtype (.ref CAcc) (.type "list")) true := looks_subIn X (by kernel_rfl)
  have isT : Looks (model pg w) h (isType (.ref CAcc)) true := (Looks.ld (part := some headPart) hC).andThen .now
  refine codeAny_call_builtin_code (Code.quiet_builtin _ (by decide +kernel)) ?_
  have hk : builtinKind "list.__new__" = some .builtinFn := by decide +kernel
  have hs : splitId "list.__new__" = some ("list", "__new__") := by kernel_rfl
  have hr : ∃ sg, Manifest.signature? "list.__new__" = sg := ⟨_, rfl⟩
  obtain ⟨sg, hsg⟩ := hr
  simp only [checkBuiltinCall, hk, hs, hsg]
  repeat (first | simp only [bne_self_eq_false, Bool.false_eq_true, if_false] | lk)
  have ha : argsOk "list.__new__" ⟨[.ref CAcc, v], []⟩ := by unfold argsOk; kernel_rfl
  have body : codeAny (model pg w) A (.builtin "list.__new__" ⟨[.ref CAcc, v], []⟩) R ⟨h, g, d, t, os⟩ := by
    refine codeAny_builtin_stack PySem.F.entry_list_new rfl fun p st => ?_
    have hown := owner_list_new
    simp only [hown]
    repeat (first | simp only [typ_list_new] | lk)
    refine wpAny_load (Heap.get?_push_of_some _ (Heap.get?_push_of_some _ hC)) (wpAny_pure ?_)
    rw [e2]
    refine wpAny_pure (wpAny_pure ?_)
    show R (.ok (.ret (.ref (h.push emptyDict).objs.size))) _
    rw [Heap.size_push]
    exact hq
  simp only [argsOk, hsg] at ha
  cases sg with
  | none => exact wpAny_pure body
  | some sig =>
    have h2 : Bind.checkArgs "list.__new__" sig ⟨[.ref CAcc, v], []⟩ = pure () := ha
    show wpAny _ _ (Bind.checkArgs "list.__new__" sig ⟨[.ref CAcc, v], []⟩) _ _ _
    rw [h2]
    exact wpAny_pure body
theorem acc_make {v init : Value} (X : (KF w).In h) (hi : Looks (model pg w) h (typeLookup (.ref CAcc) "__init__") (some init))
    (hb : ∀ self, Looks (model pg w) h (bindSpecial init self) (init, [self]))
    (hq : codeAny (model pg w) (A.under (.builtin "type.__call__" ⟨[.ref CAcc, v], []⟩)) (.call init ⟨[.ref (h.objs.size + 1), v], []⟩) (InitBack (h.objs.size + 1) R) ⟨(h.push emptyDict).push (accO CAcc h.objs.size [] 0), g, d, t, os⟩) :
    codeAny (model pg w) A (.call (.ref CAcc) ⟨[v], []⟩) R ⟨h, g, d, t, os⟩ := by
  obtain ⟨oc, od, cd, sl, hC, e1, e2, e4, made, base⟩ := accMk_of X
  have call : Looks (model pg w) h (specialOf (.ref CAcc) "__call__") (some (.builtin "type.__call__")) := looks_specialIn X (by kernel_rfl)
  have typ : Looks (model pg w) h (isInstance (.ref CAcc) (.type "type")) true := looks_instIn X (by kernel_rfl)
  have self : Looks (model pg w) h (isSubtype (.ref CAcc) (.ref CAcc)) true := looks_subIn X (by kernel_rfl)
  refine codeAny_of_tree ?_
  show wpAny _ _ (callAny (.ref CAcc) _) _ _ _
  refine nd_load hC ?_
  show wpAny _ _ (callAny.viaDunder (.ref CAcc) _) _ _ _
  unfold callAny.viaDunder
  refine wpAny_bind (call.at ?_)
  dsimp only
  rw [tc_bind]
  refine wpAny_bind (wpAny_pure (wpAny_bind (wpAny_pure ?_)))
  refine wpAny_pure (a := Fin.again (.call (.builtin "type.__call__") ⟨[.ref CAcc, v], []⟩)) (And.intro rfl ?_)
  refine codeAny_call_builtin_at (Code.quiet_builtin _ (by decide +kernel)) entry_typeCall (check_slot tc_kind tc_split typ (tc_args _ _ _) ?_)
  unfold Builtin.«type.__call__»
  have hm : Looks (model pg w) h (mroOf (.ref CAcc)) cd.mro := ((Looks.ld (part := none) hC).andThen .now).andThen .now
  have e5 : cd.mro.isEmpty = false := by rw [e4]; rfl
  repeat (first | simp only [e5, Bool.false_eq_true, if_false] | with_reducible refine wpAny_call ?_ | lk)
  refine acc_new X ?_
  have k : ∀ b o, h.get? b = some o → ((h.push emptyDict).push (accO CAcc h.objs.size [] 0)).get? b = some o := fun b o e => Heap.get?_push_of_some _ (Heap.get?_push_of_some _ e)
  have hx : ((h.push emptyDict).push (accO CAcc h.objs.size [] 0)).get? (h.objs.size + 1) = some (accO CAcc h.objs.size [] 0) := by heap_get
  have t1 : Looks (model pg w) ((h.push emptyDict).push (accO CAcc h.objs.size [] 0)) (typeOf (.ref (h.objs.size + 1))) (.ref CAcc) := (Looks.ld hx).andThen .now
  have s1 := self.keeps k
  have i1 := hi.keeps k
  have b1 := (hb (.ref (h.objs.size + 1))).keeps k
  unfold isInstance callSpecial? specialOf
  repeat (first | with_reducible refine wpAny_call ?_ | lk)
  refine codeAny_mono hq fun r s' z => ?_
  rcases r with e | (v | _ | _ | _) <;> first | exact z | exact z.elim | skip
  obtain ⟨rfl, z⟩ := z
  exact wpAny_pure (wpAny_pure z)
end
theorem OpCall_newacc {c : Cx} {k : Nat} {loc : Loc} {H : Own} {P : AV → Own → Prop} {i : Int} (G : c.Good (k + 1)) (hinit : ∀ a, AF k (.ref 115) [.ref a, .int i] ((a, .acc0 []) :: H) fun v H1 => v = .none ∧ P (.ref a) H1) :
    OpCall c (.ref CAcc) [.int i] loc H P := fun T s vs' R hA => by
  obtain ⟨_, rfl, m1⟩ := hA.one
  · obtain ⟨t, rfl⟩ := R.isInt m1
    obtain ⟨N, es, mm, R⟩ := R
    have X := R.KI G
    have F1 := R.F.push emptyDict
    have N1 := News.push R.F R.nw emptyDict rfl
    have F2 := F1.push (accO CAcc s.heap.objs.size [] 0)
    have N2 := News.push F1 N1 (accO CAcc s.heap.objs.size [] 0) rfl
    have hsz : (s.heap.push emptyDict).objs.size = s.heap.objs.size + 1 := Heap.size_push ..
    rw [hsz] at N2
    have R2 := R.newO2 (tk := s.toks) F2 N2 (fun p hp => Heap.lt_size (R.nw p hp).1) (Nat.lt_succ_self _) (.acc0 (l := []) .nil)
    refine wpAny_call ?_
    obtain ⟨hh, g, d, tk, os⟩ := s
    refine acc_make (init := .ref 115) X (looks_findIn X (by kernel_rfl)) (fun self => bind_fn X self (by kernel_rfl)) ?_
    have R3 := R2.put (.int i t)
    refine codeAny_mono (hinit _ c _ loc _ _ _ (G.le (Nat.zero_le _)) G.frames ⟨?_, ?_, ?_⟩ (R3.put (.ref _)).rep (.cons (.head _) (.cons (.tail _ (.head _)) .nil))) fun r s' hr => ?_
    · have := G.room.depth; show c.A.depth + 1 + 10 * k < 900; omega
    · have := G.room.units; show c.A.units + 1 + 40 * k < 9000; omega
    · exact G.room.handled
    · unfold RP at hr
      split at hr
      · obtain ⟨v, H', R, rfl, hp⟩ := hr
        obtain rfl := R.isNone (.head _)
        refine ⟨rfl, _, _, R.sub fun p hp => ?_, hp⟩
        rcases List.mem_cons.mp hp with rfl | hp
        · exact .tail _ (.head _)
        · exact .tail _ (.tail _ (.tail _ hp))
      · exact hr.elim
end
section
theorem AF_defS {k : Nat} {f : Addr} {name qual : Str} {params : Arguments} {body : List Stmt} {scope : Scope} {cl : List (Str × Addr)} {dV kV doc pm cdv ct oc : Value} {an od : Option Addr} {osl : Array (Option Value)}
    {args ds : List AV} {H : Own} {P : AV → Own → Prop} (xs ys : List String) (l0 : Loc)
    (hK : ∀ w, (KF w).lookup f = some ⟨oc, od, .func (fnX name qual params body scope cl dV kV doc pm an cdv ct), osl⟩) (hcd : ∀ w, codeIn (KF w) cdv qual = true)
    (hl : (args ++ ds).length = xs.length) (nd : (xs ++ ys).Nodup)
    (hb : ∀ (w : World) (s : Shared) (args' : List Value), args'.length = args.length → (KF w).In s.heap → ∃ ds', BindsTo s (fnX name qual params body scope cl dV kV doc pm an cdv ct) ⟨args', []⟩ ((xs.map Str.ofString).zip (args' ++ ds')) ∧ ∀ B N, VRs B N ds ds')
    (hloc : ((xs ++ ys).all (locOk scope)) = true)
    (h : ∀ (w : World) (os : OsState) (base : Heap) (outer : List Env) (A₀ A : Around) (h₀ : Heap) (L : Addr) (X Y : Led), let c : Cx := ⟨w, os, base, outer, A₀, A, h₀, L, qual, scope, f, cdv, cl, X, Y⟩; c.Good k → ∀ T s, Rep c l0 H T s →
      _root_.PySem.wpAt (model pg w) A (.func body c.env) (execs body c.env) (FOut c T (kFn P)) EF s)
    (hcell : ∀ x ∈ scope.names, x.2 ≠ .cell) (hl0 : l0 = loc0 xs (args ++ ds) ys := by rfl) (hco : scope.isCoroutine = false := by rfl) (hgen : scope.isGenerator = false := by rfl) (hk : scope.kind = .function := by rfl) :
    AF (k + 1) (.ref f) args H P := by
  subst hl0
  intro c A loc T s args' G hA hR R hI
  obtain ⟨N, es, m, R⟩ := R
  obtain ⟨mg, mb, top⟩ := G.top
  obtain ⟨TL, hT1, hT2⟩ := LocR.temps R.loc.is
  have KS : (KF c.w).In s.heap := G.K.keeps R.F.keep
  obtain ⟨ds', hbind, hds⟩ := hb c.w s args' hI.length KS
  have hvs : VRs c.base N (args ++ ds) (args' ++ ds') := (hI.vrs R.tmp).append (hds _ _)
  obtain ⟨FG, BG, st, lv⟩ := groundX (R := RP c loc T P) G.below R.F R.nw hA rfl G.kind
  refine ks_codeAny_call_defAt (fd := fnX name qual params body scope cl dV kV doc pm an cdv ct) (body := body) (binds := (xs.map Str.ofString).zip (args' ++ ds')) (by have := hR.depth; show A.depth < 1000; omega) (KS _ _ (hK c.w)) rfl (top.nolimit.keeps R.F.keep)
    (codeRec_of KS (hcd c.w)) rfl hbind hcell (fun y hy => ?_) (fun h₁ hns hk₁ => ?_) hco hgen hk
  · obtain ⟨x, hx, e⟩ := List.mem_map.mp (List.of_mem_zip hy).1
    rw [← e]
    have := List.all_eq_true.mp hloc x (List.mem_append_left _ hx)
    exact of_decide_eq_true (Bool.and_eq_true_iff.mp this).1
  · generalize hg : hideAll s.heap ((N ++ es).map (·.1)) = g at FG BG st lv
    have F' : Fr g s.heap.objs.size h₁ (fun y => ((xs.map Str.ofString).zip (args' ++ ds')).reverse.lookup y) := ⟨hns, fun b o e => hk₁ b o (of_hideAll _ (hg ▸ e)), Nat.le_of_eq (hg ▸ hideAll_size _ _)⟩
    have N' : News g s.heap.objs.size h₁ (N ++ es) := fun p hp => ⟨hk₁ _ _ (R.nw p hp).1, Nat.ne_of_lt (Heap.lt_size (R.nw p hp).1), hg ▸ hideAll_none _ (List.mem_map_of_mem hp)⟩
    generalize s.heap.objs.size = L' at F' N'
    let c' : Cx := { w := c.w, os := c.os, base := c.base, outer := c.env :: c.outer, A₀ := A, A := A.deeper (envX qual scope L' f cdv cl), h₀ := g, L := L', nm := qual, scope := scope, f := f, cd := cdv, cells := cl, X := c.X, Y := c.Y }
    have G' : c'.Good k := ⟨BG, by show (A.deeper _).frames = _; unfold Around.deeper; rw [hA]; rfl, hk, ⟨by show A.depth + 1 + 10 * k < 900; have := hR.depth; omega, by show A.units + 3 + 40 * k < 9000; have := hR.units; omega, hR.handled⟩,
      G.K.keeps st, ⟨mg, mb, top.keeps st⟩⟩
    have R' : RepW c' (loc0 xs (args ++ ds) ys) H (T ++ TL) { s with heap := h₁, toks := s.toks + ((xs.map Str.ofString).zip (args' ++ ds')).length } N es (fun y => ((xs.map Str.ofString).zip (args' ++ ds')).reverse.lookup y) := by
      refine ⟨F', N', R.nd, R.own, R.yk, fun p hp => ?_, locR0 hvs hl nd hloc, R.gens, R.os⟩
      rcases List.mem_append.mp hp with hp | hp
      · exact R.tmp p hp
      · exact hT1 p hp
    refine ks_wpAt_mono (h _ _ _ _ _ _ _ _ _ _ G' (T ++ TL) _ R'.rep) (fun fl s' hp => ?_) fun _ _ e => e.elim
    obtain ⟨fl', loc', H', T', hf, R2, hp⟩ := hp
    obtain ⟨N2, es2, m2, R2⟩ := R2
    have back : ∀ (v : AV) (v' : Value), VR c.base N2 v v' → (∀ p ∈ T ++ TL, VR c.base N2 p.1 p.2) → P v H' → LeaveK c.h₀ c.L m g (RP c loc T P) v' s' := fun v v' hv ht hP => by
      refine leaveK_ R2.F R2.nw fun F3 N3 => ?_
      refine ⟨v, H', ⟨N2, es2, m, F3, N3, R2.nd, R2.own, R2.yk, fun p hp => ?_, ⟨R.loc.nd, R.loc.kd, fun x u hm => ?_⟩, R2.gens, R2.os⟩, hP⟩
      · rcases List.mem_cons.mp hp with rfl | hp
        · exact hv
        · exact ht p (List.mem_append_left _ hp)
      · obtain ⟨u', e1, e2⟩ := hT2 x u hm
        exact ⟨u', e1, ht _ (List.mem_append_right _ e2)⟩
    refine lv _ _ ?_
    cases hf with
    | next => exact back .none .none .none R2.tmp hp
    | brk => exact hp.elim
    | cont => exact hp.elim
    | @ret v v' => exact back v v' (R2.tmp (v, v') (.head _)) (fun p hp => R2.tmp p (.tail _ hp)) hp
structure SuperB (name id bty gid : String) (dty : String) : Prop where
  own : builtinOwn "list" (Str.ofString name) = some (.builtin id)
  ty : typeOf (.builtin id) = pure (.type dty)
  slot : Slot dty "__get__" gid
  args : ∀ a b c, argsOk gid ⟨[a, b, c], []⟩
  ncls : (Str.ofString name == ("__class__" : Str)) = false
  nodct : Manifest.toldItsClass.contains id = false
  bound : (bty = "builtin_function_or_method" ∨ bty = "method-wrapper")
  run : ∀ {w : World} {A : Around} {Q : Fin → Shared → Prop} {E : Value → Shared → Prop} {s : Shared} {x : Addr}, Looks (model pg w) s.heap (isInstance (.ref x) (.type "list")) true → (∀ q, q = s.heap.objs.size → Q (.done (.ret (.ref q))) { s with heap := s.heap.push { cls := .type bty, data := .fields #[.builtin id, .ref x] } }) →
    ∃ B, entryFor table gid = some B ∧ wpAny (model pg w) A (B ⟨[.builtin id, .ref x, .ref CAcc], []⟩) Q E s
theorem slot_wdget : Slot "wrapper_descriptor" "__get__" "wrapper_descriptor.__get__" := .of (owner := "wrapper_descriptor") (n := "__get__") (by rw [typeLookup_type, builtinLookup_eq_fast]; kernel_rfl) (by decide +kernel) (by decide +kernel) (by decide +kernel)
  (by first | exact .inl (by decide +kernel) | exact .inr (by decide +kernel)) (by rw [isSubtype_type]; kernel_rfl)
theorem slot_mdget : Slot "method_descriptor" "__get__" "method_descriptor.__get__" := .of (owner := "method_descriptor") (n := "__get__") (by rw [typeLookup_type, builtinLookup_eq_fast]; kernel_rfl) (by decide +kernel) (by decide +kernel) (by decide +kernel)
  (by first | exact .inl (by decide +kernel) | exact .inr (by decide +kernel)) (by rw [isSubtype_type]; kernel_rfl)
theorem entry_wdget : entryFor table "wrapper_descriptor.__get__" = some Builtin.«wrapper_descriptor.__get__» := entryFor_of_tree (by kernel_rfl)
theorem entry_mdget : entryFor table "method_descriptor.__get__" = some Builtin.«method_descriptor.__get__» := entryFor_of_tree (by kernel_rfl)
theorem SB_len : SuperB "__len__" "list.__len__" "method-wrapper" "wrapper_descriptor.__get__" "wrapper_descriptor" where
  own := by kernel_rfl
  ty := by kernel_rfl
  slot := slot_wdget
  args := fun a b c => by unfold argsOk; kernel_rfl
  ncls := by decide
  nodct := by decide +kernel
  bound := .inr rfl
  run := fun {w A Q E s x} hi hq => ⟨_, entry_wdget, by
    unfold Builtin.«wrapper_descriptor.__get__»
    refine wpAny_bind (wpAny_of_eq (a := (.builtin "list.__len__", some (.ref x), some (.ref CAcc))) (by rfl) ?_)
    refine wpAny_bind ?_
    refine wpAny_bind (wpAny_of_eq (a := (("__len__" : Str), .type "list")) (by kernel_rfl) ?_)
    refine wpAny_bind (hi.here ?_)
    refine wpAny_pure ?_
    refine wpAny_bind (wpAny_newObj_type (wpAny_pure (hq _ rfl)))⟩
theorem SB_init : SuperB "__init__" "list.__init__" "method-wrapper" "wrapper_descriptor.__get__" "wrapper_descriptor" where
  own := by kernel_rfl
  ty := by kernel_rfl
  slot := slot_wdget
  args := fun a b c => by unfold argsOk; kernel_rfl
  ncls := by decide
  nodct := by decide +kernel
  bound := .inr rfl
  run := fun {w A Q E s x} hi hq => ⟨_, entry_wdget, by
    unfold Builtin.«wrapper_descriptor.__get__»
    refine wpAny_bind (wpAny_of_eq (a := (.builtin "list.__init__", some (.ref x), some (.ref CAcc))) (by rfl) ?_)
    refine wpAny_bind ?_
    refine wpAny_bind (wpAny_of_eq (a := (("__init__" : Str), .type "list")) (by kernel_rfl) ?_)
    refine wpAny_bind (hi.here ?_)
    refine wpAny_pure ?_
    refine wpAny_bind (wpAny_newObj_type (wpAny_pure (hq _ rfl)))⟩
theorem SB_pop : SuperB "pop" "list.pop" "builtin_function_or_method" "method_descriptor.__get__" "method_descriptor" where
  own := by kernel_rfl
  ty := by kernel_rfl
  slot := slot_mdget
  args := fun a b c => by unfold argsOk; kernel_rfl
  ncls := by decide
  nodct := by decide +kernel
  bound := .inl rfl
  run := fun {w A Q E s x} hi hq => ⟨_, entry_mdget, by
    unfold Builtin.«method_descriptor.__get__»
    refine wpAny_bind (wpAny_of_eq (a := (.builtin "list.pop", some (.ref x), some (.ref CAcc))) (by rfl) ?_)
    show wpAny _ _ (if Manifest.toldItsClass.contains "list.pop" then _ else _) _ _ _
    rw [if_neg (by decide +kernel)]
    refine wpAny_bind ?_
    refine wpAny_bind (wpAny_of_eq (a := (("pop" : Str), .type "list")) (by kernel_rfl) ?_)
    refine wpAny_bind (hi.here ?_)
    refine wpAny_pure ?_
    refine wpAny_bind (wpAny_newObj_type (wpAny_pure (hq _ rfl)))⟩
end
section
noncomputable abbrev bndO (bty id : String) (x : Addr) : Obj := { cls := .type bty, data := .fields #[.builtin id, .ref x] }
section
variable {w : World} {A : Around} {E : Value → Shared → Prop} {s : Shared} {a so : Addr} {ox : Obj} {od : Option Obj} {name id bty gid dty : String}
theorem super_ga (S : SuperB name id bty gid dty) (X : (KF w).In s.heap) (I : W.InstAt s.heap a ox CAcc od) (hso : s.heap.get? so = some (ks_superObj CAcc a CAcc)) (hne : a ≠ CAcc) {tk : Tok} {Q : Fin → Shared → Prop}
    (hq : Q (.done (.ret (.ref s.heap.objs.size))) { s with heap := s.heap.push (bndO bty id a) }) :
    wpAny (model pg w) A (Builtin.«super.__getattribute__» ⟨[.ref so, .str (Str.ofString name) tk], []⟩) Q E s := by
  have hdt : (ks_superObj CAcc a CAcc).data = .fields #[.ref CAcc, .ref a, .ref CAcc] := rfl
  have f0 : (#[.ref CAcc, .ref a, .ref CAcc] : Array Value)[0]? = some (.ref CAcc) := rfl
  have f1 : (#[.ref CAcc, .ref a, .ref CAcc] : Array Value)[1]? = some (.ref a) := rfl
  have f2 : (#[.ref CAcc, .ref a, .ref CAcc] : Array Value)[2]? = some (.ref CAcc) := rfl
  have hv : (Value.ref a == Value.ref CAcc) = false := by simp [hne]
  obtain ⟨cd, hc, ho⟩ := any_some (show (clsIn (KF w) CAcc).any (fun cd => cd.mro == [.ref CAcc, .type "list", .type "object"]) = true by kernel_rfl)
  have ho : cd.mro = [.ref CAcc, .type "list", .type "object"] := beq_iff_eq.mp ho
  have hC : Looks (model pg w) s.heap (mroOf (.ref CAcc)) cd.mro := (looks_clsIn X hc).andThen .now
  have hno : Looks (model pg w) s.heap (opaqueClassAbove (.ref CAcc)) none := looks_opaque X (by kernel_rfl)
  have hn := S.ncls
  have hl := S.slot.lookup
  have hty := S.ty
  have hi : Looks (model pg w) s.heap (isInstance (.ref a) (.type "list")) true := I.type.andThen (looks_subIn X (by kernel_rfl))
  obtain ⟨hp, g, d, t, os⟩ := s
  unfold Builtin.«super.__getattribute__»
  repeat (first
    | (with_reducible refine wpAny_field hso hdt f0 ?_) | (with_reducible refine wpAny_field hso hdt f1 ?_) | (with_reducible refine wpAny_field hso hdt f2 ?_)
    | (with_reducible refine ks_wpAny_notOpaque hno ?_)
    | (with_reducible refine Looks.at hC ?_; rw [ho])
    | (simp only [hn, Bool.or_false, Bool.false_eq_true, if_false])
    | wp_step
    | dsimp only)
  rw [S.own]
  dsimp only
  refine wpAny_bind (wpAny_of_eq hty (wpAny_bind (wpAny_of_eq hl ?_)))
  rw [hv]
  simp only [Bool.false_eq_true, if_false]
  refine wpAny_bind (wpAny_holding ?_)
  have hTf : (⟨hp, g, d, t, os⟩ : Shared).TypeIs (.builtin id) dty := hty
  obtain ⟨B, hB, hrun⟩ := S.run (w := w) (A := A.in1) (Q := fun fin s' => ∃ v, fin = .done (.ret v) ∧ v = .ref hp.objs.size ∧ s' = ⟨hp.push (bndO bty id a), g, d, t, os⟩) (E := fun _ _ => False) (s := ⟨hp, g, d, t, os⟩) (x := a) hi (fun q hq => ⟨_, rfl, by rw [hq], rfl⟩)
  refine wpAny_call_entry S.slot hTf hB (wpAny_mono hrun (fun fin s' ⟨v, e1, e2, e3⟩ => ⟨v, e1, ?_⟩) fun _ _ e => e.elim) (S.args _ _ _)
  subst e2 e3
  exact wpAny_bind (wpAny_pure (wpAny_pure (wpAny_pure (wpAny_pure hq))))
theorem super_meth (S : SuperB name id bty gid dty) (X : (KF w).In s.heap) (I : W.InstAt s.heap a ox CAcc od) (hso : s.heap.get? so = some (ks_superObj CAcc a CAcc)) (hne : a ≠ CAcc) {pl : Sem Bool} {Q : Value × List Value → Shared → Prop}
    (hq : Q (.ref s.heap.objs.size, []) { s with heap := s.heap.push (bndO bty id a), toks := s.toks + 1 }) :
    wpAny (model pg w) A (getMethod (.ref so) (Str.ofString name) pl) Q E s := by
  obtain ⟨h, g, d, t, os⟩ := s
  have hlk := PySem.F.ks_slot_super_ga.lookup
  have hcan := PySem.F.ks_canon_super_ga
  have hT : ∀ t', (⟨h, g, d, t', os⟩ : Shared).TypeIs (.ref so) "super" := fun _ => ⟨_, hso, rfl⟩
  unfold getMethod
  refine wpAny_bind (wpAny_specialOf (hT _) hlk ?_)
  show wpAny _ _ (if (Manifest.canonical "super.__getattribute__" != "object.__getattribute__") = true then _ else _) _ _ _
  rw [if_pos hcan]
  unfold getAttr getAttrBy
  refine wpAny_bind (wpAny_bind (wpAny_mkText (wpAny_holding (wpAny_bind (wpAny_typeOf (hT _) (wpAny_bind (wpAny_of_eq hlk ?_)))))))
  show wpAny _ _ (getAttrByItsOwn (.ref so) (.str (Str.ofString name) t) (.type "super") (.builtin "super.__getattribute__") true false) _ _ _
  unfold getAttrByItsOwn hookBefore callGetattribute boundAndCalled
  refine wpAny_bind (wpAny_of_eq (show (if onTheHeap (.type "super") then typeLookup (.type "super") "__getattr__" else pure none) = pure none from rfl) ?_)
  refine wpAny_bind (wpAny_attempt (wpAny_holding ?_))
  show wpAny _ _ (bindSpecial (.builtin "super.__getattribute__") (.ref so) >>= _) _ _ _
  refine wpAny_bind (wpAny_of_eq (PySem.F.ks_slot_super_ga.bind _) ?_)
  refine wpAny_mono (Q := fun v s' => v = .ref h.objs.size ∧ s' = ⟨h.push (bndO bty id a), g, d, t + 1, os⟩) (E := fun _ _ => False)
    (wpAny_call_entry PySem.F.ks_slot_super_ga (hT _) PySem.F.ks_entry_super_ga (super_ga (s := ⟨h, g, d, t + 1, os⟩) S X I hso hne ⟨_, rfl, rfl, rfl⟩) (PySem.F.ks_gaArgs_super _ _)) (fun v s' hv => ?_) fun _ _ z => z.elim
  obtain ⟨rfl, rfl⟩ := hv
  exact wpAny_pure (wpAny_pure hq)
theorem bnd_call {q : Addr} {B : Builtin} {R : Result → Shared → Prop} (hb : bty = "builtin_function_or_method" ∨ bty = "method-wrapper") (hq : s.heap.get? q = some (bndO bty id a)) (hB : entryFor table id = some B) (hqt : (Code.builtin id ⟨[.ref a], []⟩).quiet = true)
    (hc : ∀ {Q : Unit → Shared → Prop} {A : Around} {E : Value → Shared → Prop}, Q () s → wpAny (model pg w) A (checkBoundCall id ⟨[.ref a], []⟩) Q E s)
    (h : wpAny (model pg w) (A.under (.builtin id ⟨[.ref a], []⟩)) (B ⟨[.ref a], []⟩) (fun fin s' => match fin with | .done f => R (.ok f) s' | .again c' => c'.quiet = true ∧ codeAny (model pg w) A c' R s') (fun e s' => R (.error e) s') s) :
    codeAny (model pg w) A (.call (.ref q) ⟨[], []⟩) R s := by
  refine codeAny_of_tree ?_
  show wpAny _ A.in1 (callAny (.ref q) ⟨[], []⟩) _ _ _
  unfold callAny
  refine wpAny_bind (wpAny_load hq ?_)
  have e1 : (Value.type bty == Value.type "method" || Value.type bty == Value.type "builtin_function_or_method" || Value.type bty == Value.type "method-wrapper") = true := by rcases hb with rfl | rfl <;> decide
  have e2 : (Value.type bty != Value.type "method") = true := by rcases hb with rfl | rfl <;> decide
  show wpAny _ _ (if (Value.type bty == Value.type "method" || Value.type bty == Value.type "builtin_function_or_method" || Value.type bty == Value.type "method-wrapper") = true then _ else _) _ _ _
  rw [if_pos e1]
  show wpAny _ _ (if (Value.type bty != Value.type "method") = true then _ else _) _ _ _
  rw [if_pos e2]
  exact wpAny_bind (hc (wpAny_bind (wpAny_pure (wpAny_pure ⟨hqt, codeAny_builtin hB h⟩))))
theorem bnd_check_len {Q : Unit → Shared → Prop} (h : Q () s) : wpAny (model pg w) A (checkBoundCall "list.__len__" ⟨[.ref a], []⟩) Q E s := by
  refine wpAny_of_eq (a := ()) (by kernel_rfl) h
theorem bnd_check_init {Q : Unit → Shared → Prop} (h : Q () s) : wpAny (model pg w) A (checkBoundCall "list.__init__" ⟨[.ref a], []⟩) Q E s := by
  refine wpAny_of_eq (a := ()) (by kernel_rfl) h
theorem pop_sig (a : Value) : ∃ sig, Manifest.signature? "list.pop" = some sig ∧ Bind.checkArgs "list.pop" { sig with full := toString (Str.ofString "_Accumulator").toString ++ toString "." ++ toString (Bind.lastOf "list.pop") } ⟨[a], []⟩ = pure () := by
  refine ⟨(Manifest.signature? "list.pop").get (by decide +kernel), by simp, ?_⟩
  kernel_rfl
theorem bnd_check_pop (X : (KF w).In s.heap) (I : W.InstAt s.heap a ox CAcc od) {Q : Unit → Shared → Prop} (h : Q () s) : wpAny (model pg w) A (checkBoundCall "list.pop" ⟨[.ref a], []⟩) Q E s := by
  have hm : Looks (model pg w) s.heap (isInstance (.ref a) (.type "module")) false := I.type.andThen (looks_subIn X (by kernel_rfl))
  obtain ⟨sig, hs, hf⟩ := pop_sig (.ref a)
  have hk : builtinKind "list.pop" = some .method := by decide +kernel
  obtain ⟨cd, hc, hq⟩ := any_some (show (clsIn (KF w) CAcc).any (fun cd => cd.qualname == Str.ofString "_Accumulator") = true by kernel_rfl)
  have hq : cd.qualname = Str.ofString "_Accumulator" := beq_iff_eq.mp hq
  have hct : Looks (model pg w) s.heap (typeOf (.ref CAcc)) (.type "type") := looks_typeIn X (by kernel_rfl)
  unfold checkBoundCall
  rw [hs, hk]
  dsimp only
  rw [if_neg (by decide)]
  refine wpAny_bind (hm.here ?_)
  rw [if_neg (by decide +kernel)]
  have isT : Looks (model pg w) s.heap (isType (.ref a)) false := by
    refine (Looks.ld (part := some headPart) I.at_).andThen ?_
    have hno := I.no
    obtain ⟨c, d, dt, sl⟩ := ox
    cases dt <;> first | exact .now | (exact Bool.noConfusion hno)
  refine wpAny_bind (isT.here ?_)
  rw [if_neg Bool.false_ne_true]
  refine wpAny_bind (I.type.here ?_)
  refine wpAny_bind ((looks_clsIn X hc).here (wpAny_bind (hct.here ?_)))
  rw [if_pos (by decide)]
  rw [hq, hf]
  exact wpAny_pure h
end
end
section
structure SupDef (f cda : Addr) (scope : Scope) : Prop where
  ks : scope.names.lookup ("super" : Str) = some .globalImplicit
  kc : scope.names.lookup ("__class__" : Str) = some .free
  ka : scope.names.lookup ("self" : Str) = some .local
  fn : ∀ w, ∃ oc od fd sl, (KF w).lookup f = some ⟨oc, od, .func fd, sl⟩ ∧ ∃ ar, (fd.params.posonlyargs ++ fd.params.args).head? = some ar ∧ ar.arg = ("self" : Str)
  code : ∀ w, ∃ oc od vs sl file tf, (KF w).lookup cda = some ⟨oc, od, .fields vs, sl⟩ ∧ vs[2]? = some (.str file tf) ∧ ((pg.main.file : Str) == file) = true
section
variable {c : Cx} {k : Nat} {loc : Loc} {H : Own} {T : Tmp} {s : Shared} {a : Addr} {ini : Int} {l : List (Str × Str)} {name id bty gid dty : String} {B : Builtin}
theorem AT_super {body : List Stmt} {cda : Addr} {p0 p1 apos pos : Pos} {Q : Value → Shared → Prop} (G : c.Good k) (D : SupDef c.f cda c.scope) (hcl : c.cells = [(Str.ofString "__class__", 102)]) (hcd : c.cd = .ref cda) (S : SuperB name id bty gid dty)
    (hB : entryFor table id = some B) (hqt : ∀ a, (Code.builtin id ⟨[.ref a], []⟩).quiet = true) (hm : (a, AO.acc ini l) ∈ H) (hself : ("self", some (AV.ref a)) ∈ loc) (R : Rep c loc H T s)
    (hchk : ∀ {s : Shared} {dx : Addr} {vs : List Value} {n : Nat} {od : Option Obj} {Q : Unit → Shared → Prop} {A : Around} {E : Value → Shared → Prop}, (KF c.w).In s.heap → W.InstAt s.heap a (accO CAcc dx vs n) CAcc od → Q () s → wpAny (model pg c.w) A (checkBoundCall id ⟨[.ref a], []⟩) Q E s)
    (h : ∀ s' N es m, RepW c loc H T s' N es m → wpAny (model pg c.w) (c.A.under (.builtin id ⟨[.ref a], []⟩)) (B ⟨[.ref a], []⟩) (fun fin s'' => ∃ v, fin = .done (.ret v) ∧ Q v s'') (fun _ _ => False) s')
    (he : eval (.Call (.Attribute (.Call (.Name "super" p0) [] [] p1) (Str.ofString name) apos) [] [] pos) c.env = (do
      let ov ← attributeBase (.Call (.Name "super" p0) [] [] p1) (Str.ofString name) c.env (eval (.Call (.Name "super" p0) [] [] p1) c.env)
      standAt apos.atName
      let (f, first) ← holding [ov] (getMethod ov (Str.ofString name) (pure false))
      callWith pos f first (backTo pos (starEach [] c.env)) []) := by first | rfl | with_unfolding_all rfl) :
    _root_.PySem.wpAt (model pg c.w) c.A (.func body c.env) (eval (.Call (.Attribute (.Call (.Name "super" p0) [] [] p1) (Str.ofString name) apos) [] [] pos) c.env) Q (fun _ _ => False) s := by
  obtain ⟨oc, od, fd, sl, hfo, ar, har, hself'⟩ := D.fn c.w
  obtain ⟨oc2, od2, vs2, sl2, file, tf, hco, hvs, hfile⟩ := D.code c.w
  obtain ⟨mg, mb, top⟩ := G.top
  obtain ⟨N, es, m, R⟩ := R
  have X := R.KI G
  obtain ⟨dx, vs, n, mm, hh, t1, t2, Z⟩ := R.accAt hm
  obtain ⟨sv, hsv, hsvr⟩ := R.loc.is _ _ hself
  have hsv : m (Str.ofString "self") = some sv := hsv
  cases hsvr
  have hne : a ≠ CAcc := by
    rintro rfl
    obtain ⟨o, ho⟩ : ∃ o, (KF c.w).lookup CAcc = some o ∧ (match o.data with | .cls _ => true | _ => false) = true := by
      have : ((KF c.w).lookup CAcc).any (fun o => match o.data with | .cls _ => true | _ => false) = true := by kernel_rfl
      exact any_some this
    have := X _ _ ho.1
    rw [Z.I.at_] at this
    cases this
    exact absurd ho.2 (by simp)
  refine ks_wpAt_MethodCall (pl := pure false) ?_ he
  refine ks_wpAt_super_base (f := c.f) (env := c.env) D.ks D.kc S.ncls rfl (X _ _ hfo) rfl har hcd (X _ _ hco) rfl hvs hfile (by kernel_rfl) ?_
  refine ks_loadName_global G.kind D.ks (loadGlobal_builtin (env := c.env) (top.g.keeps R.F.keep) (mg_none_of G.K top.g (by kernel_rfl)) (top.b.keeps R.F.keep) ((top.builtins _ (by decide)).trans (by first | rfl | kernel_rfl)) ⟨rfl, ?_⟩)
  obtain ⟨celo, hcel, hceld⟩ : ∃ o, (KF c.w).lookup 102 = some o ∧ o.data = .cell (some (.ref CAcc)) := by
    have : ((KF c.w).lookup 102).any (fun o => match o.data with | .cell (some v) => v == .ref CAcc | _ => false) = true := by kernel_rfl
    obtain ⟨o, ho, hd⟩ := any_some this
    refine ⟨o, ho, ?_⟩
    split at hd
    · rename_i v hv; rw [hv, beq_iff_eq.mp hd]
    · cases hd
  refine wpAny_loadName_free (c := 102) G.kind D.kc (by show c.cells.lookup _ = _; rw [hcl]; rfl) ⟨_, X _ _ hcel, hceld⟩ ?_
  rw [hself']
  refine wpAny_loadName_local (env := c.env) G.kind D.ka R.F.ns hsv ?_
  obtain ⟨oC, odC, cd, slC, hC, -⟩ := accMk_of X
  obtain ⟨hh0, g, d, t, os⟩ := s
  refine ks_wpAny_isType_cls hC rfl ⟨rfl, ?_⟩
  refine ks_wpAny_call_super hC rfl Z.I.at_ rfl (fun c e => by cases e) (looks_subIn X (by kernel_rfl)) (fun h' e hk => ?_)
  obtain ⟨F', N', lt'⟩ := ks_newsPush (s := ⟨hh0, g, d, t, os⟩) R.F R.nw rfl e hk
  have R1 : RepW c loc H T ⟨h', g, d, t, os⟩ _ es m := R.newN (tk := t) F' N' lt'
  have X1 := R1.KI G
  obtain ⟨dx, vs, n, mm, hh, t1, t2, Z1⟩ := R1.accAt hm
  refine super_meth S X1 Z1.I e hne ?_
  have R2 := R1.newN (tk := t + 1) (R1.F.push (bndO bty id a)) (News.push R1.F R1.nw _ rfl) fun p hp => Heap.lt_size (R1.nw p hp).1
  have X2 := R2.KI G
  obtain ⟨dx, vs, n, mm, hh, t1, t2, Z2⟩ := R2.accAt hm
  have hq : (h'.push (bndO bty id a)).get? h'.objs.size = some (bndO bty id a) := Heap.get?_push_size _ rfl
  refine callWith_of (P := fun hp => hp.get? h'.objs.size = some (bndO bty id a)) rfl (fun hp hP => ⟨.machine, .inr (.inl rfl), ?_⟩) (evalArgs_nil3 ⟨hq, ?_⟩)
  · refine (Looks.ld (part := none) hP).andThen ?_
    rcases S.bound with e | e <;> subst e <;> exact .now
  · refine wpAny_call (bnd_call S.bound hq hB (hqt a) (fun hQ => hchk X2 Z2.I hQ) ?_)
    refine wpAny_mono (h _ _ _ _ R2) (fun fin s' ⟨v, e, hv⟩ => ?_) fun _ _ e => e
    subst e
    exact hv
end
end
section
section
variable {c : Cx} {env : Env} {loc loc' : Loc} {H H' : Own} {P : AV → Own → Prop} {T : Tmp} {s : Shared} {v' : Value} {i : Int} {x y : Str} {b d : Bool} {a : Addr} {l : List AV} {k : Nat} {pos : Pos}
theorem OpC_is_none (h : P (.bool true) H) : OpC c .Is .none .none loc H P := fun T s v1' v2' R m1 m2 => by
  rw [R.isNone m1, R.isNone m2]
  exact wpAny_is_self rfl ⟨_, _, R.bool _, h⟩
theorem OpC_is_lst (h : P (.bool false) H) : OpC c .Is (.lst l) .none loc H P := fun T s v1' v2' R m1 m2 => by
  obtain ⟨t, N, vs, rfl, _⟩ := R.isLst m1
  rw [R.isNone m2]
  exact is_ref_none ⟨_, _, R.bool _, h⟩
theorem OpC_isnot_bool (h : P (.bool (!decide (b = d))) H) : OpC c .IsNot (.bool b) (.bool d) loc H P := fun T s v1' v2' R m1 m2 => by
  rw [R.isBool m1, R.isBool m2]
  refine wpAny_isNot_plain rfl ⟨_, _, R.bool _, ?_⟩
  have e : ((Value.bool b == Value.bool d) = decide (b = d)) := by cases b <;> cases d <;> rfl
  rw [e]; exact h
end
end
section
theorem count_spec {k : Nat} {H : Own} {P : AV → Own → Prop} {a : Addr} {ini : Int} {l : List (Str × Str)} (hm : (a, AO.acc ini l) ∈ H) (h : P (.int l.length) H) : AF (k + 1) (.ref 175) [.ref a] H P := by
  refine AF_defS (ds := []) ["self"] [] [("self", some (.ref a))] (fun w => by rfl) (fun w => by rfl) rfl (by decide) ?_ (by decide +kernel) ?_ (by decide)
  · intro w s args' hl hk
    obtain ⟨x, rfl⟩ := ln1 hl
    exact ⟨[], BindsTo.of_eq rfl, fun _ _ => .nil⟩
  · intro w os base outer A₀ A h₀ L X Y c G T s R
    refine ks_wpAt_execs_cons (ks_wpAt_Return_some ?_)
    refine AT_super G (by exact ⟨by rfl, by rfl, by rfl, fun w => ⟨_, _, _, _, by rfl, _, by rfl, by rfl⟩, fun w => ⟨_, _, _, _, _, _, by rfl, by rfl, by rfl⟩⟩) rfl rfl SB_len entry_list_len (fun a => Code.quiet_builtin _ (by decide +kernel)) hm (.head _) R (fun X I q => bnd_check_len q) fun s' N es m R' => ?_
    obtain ⟨dx, vs, n, mm, hh, t1, t2, Z⟩ := R'.accAt hm
    unfold Builtin.«list.__len__»
    refine wpAny_bind (wpAny_of_eq (a := (.ref a, [])) rfl ?_)
    dsimp only
    refine wpAny_bind ?_
    unfold seqSize
    refine wpAny_bind (wpAny_loadPart Z.I.at_ (wpAny_pure (wpAny_bind ?_)))
    refine wpAny_bind (wpAny_fresh (wpAny_pure (wpAny_pure ⟨_, rfl, ?_⟩)))
    refine ⟨.ret (.int l.length), [("self", some (.ref a))], H, _, .ret, ?_, h⟩
    have e : (vs.toArray.size : Int) = (l.length : Int) := by rw [List.size_toArray, Z.v.pairs]
    rw [e]
    exact R'.tok.rep.int _ _
theorem wpAt_AS {c : Cx} {code : Code} {st : Stmt} {env : Env} {loc : Loc} {H : Own} {T : Tmp} {s : Shared} {Q : Flow → Shared → Prop} {P : SP} (h : AS c env st loc H P) (R : Rep c loc H T s) (q : ∀ f' s' f l H' T', FlR T f f' T' → Rep c l H' T' s' → P f l H' → Q f' s') :
    _root_.PySem.wpAt (model pg c.w) c.A code (exec st env) Q (fun _ _ => False) s :=
  wpAt_of_wpAny (thenF (h T s R) fun f' s' f l H' T' hf R' p => q _ _ _ _ _ _ hf R' p)
theorem init_spec {k : Nat} {H : Own} {P : AV → Own → Prop} {a : Addr} {i : Int} (h : P .none ((a, .acc i []) :: H)) : AF (k + 1) (.ref 115) [.ref a, .int i] ((a, .acc0 []) :: H) P := by
  refine AF_defS (ds := []) ["self", "initial_size"] [] [("self", some (.ref a)), ("initial_size", some (.int i))] (fun w => by rfl) (fun w => by rfl) rfl (by decide) ?_ (by decide +kernel) ?_ (by decide)
  · intro w s args' hl hk
    obtain ⟨x, y, rfl⟩ := ln2 hl
    exact ⟨[], binds_K hk rfl (by rfl) rfl rfl rfl, fun _ _ => .nil⟩
  · intro w os base outer A₀ A h₀ L X Y c G T s R
    refine ks_wpAt_execs_cons (wpAt_AS (P := fun f l H' => f = .next ∧ l = [("self", some (.ref a)), ("initial_size", some (.int i))] ∧ H' = (a, .acc i []) :: H) (AS_setini G ?_) R ?_)
    · refine AE_local (by assumption) (mi 1 rfl) ?_
      refine AE_local (by assumption) (.head _) ?_
      exact ⟨i, a, _, _, _, rfl, rfl, At.head, .inl ⟨[], rfl, rfl⟩, rfl, rfl, rfl⟩
    · rintro f' s' f l H' T' hf R' ⟨rfl, rfl, rfl⟩
      cases hf
      refine ks_wpAt_execs_cons (ks_wpAt_Expr_any ?_)
      refine AT_super G (by exact ⟨by rfl, by rfl, by rfl, fun w => ⟨_, _, _, _, by rfl, _, by rfl, by rfl⟩, fun w => ⟨_, _, _, _, _, _, by rfl, by rfl, by rfl⟩⟩) rfl rfl SB_init PySem.F.entry_list_init (fun a => Code.quiet_builtin _ (by decide +kernel)) (List.mem_cons_self) (.head _) R' (fun X I q => bnd_check_init q) fun s2 N es m R2 => ?_
      obtain ⟨dx, vs, n, mm, hh, t1, t2, Z, kk⟩ := R2.accUpd (l' := []) (At.head)
      have hvs : vs = [] := by have := Z.v.pairs; simpa using this
      subst hvs
      unfold Builtin.«list.__init__»
      dsimp only
      refine wpAny_bind (m := Builtin.List.listItems (.ref a)) ?_
      unfold Builtin.List.listItems
      refine wpAny_bind (wpAny_seqItems Z.I.at_ rfl (wpAny_pure ?_))
      show wpAny _ _ (updateSeq a (fun _ => #[]) >>= _) _ _ _
      refine wpAny_bind (wpAny_updateSeq Z.I.at_ rfl ?_ (by simp) (by simp))
      refine wpAny_bind (wpAny_letGo (wpAny_pure ⟨.none, rfl, ?_⟩))
      refine wpAt_of_wpAny (wpAny_execs_nil ⟨.next, [("self", some (.ref a)), ("initial_size", some (.int i))], (a, .acc i []) :: H, _, .next, ?_, h⟩)
      exact kk (fun _ => #[]) [] s2.toks rfl .nil
theorem VRs.split {B : Heap} {N : Led} {xs ys : List AV} {vs : List Value} (h : VRs B N (xs ++ ys) vs) : ∃ us ws, vs = us ++ ws ∧ VRs B N xs us ∧ VRs B N ys ws :=
  ⟨vs.take xs.length, vs.drop xs.length, (List.take_append_drop ..).symm, by simpa using h.take xs.length, by simpa using h.drop xs.length⟩
theorem erase_last {us : List Value} {u : Value} : (us ++ [u]).toArray.eraseIdxIfInBounds us.length = us.toArray := by
  rw [List.eraseIdxIfInBounds_toArray, List.eraseIdx_append_of_length_le (Nat.le_refl _)]
  simp
theorem pop_spec {k : Nat} {H H' : Own} {P : AV → Own → Prop} {a : Addr} {ini : Int} {l : List (Str × Str)} {p : Str × Str} (U : At a (.acc ini (l ++ [p])) (.acc ini l) H H') (hl : l.length ≤ 1000000) (h : P (pairAV p) H') : AF (k + 2) (.ref 138) [.ref a] H P := by
  refine AF_defS (ds := []) ["self"] [] [("self", some (.ref a))] (fun w => by rfl) (fun w => by rfl) rfl (by decide) ?_ (by decide +kernel) ?_ (by decide)
  · intro w s args' hl hk
    obtain ⟨x, rfl⟩ := ln1 hl
    exact ⟨[], BindsTo.of_eq rfl, fun _ _ => .nil⟩
  · intro w os base outer A₀ A h₀ L X Y c G T s R
    refine ks_wpAt_execs_cons (wpAt_AS (P := fun f l' H1 => f = .next ∧ l' = [("self", some (.ref a))] ∧ H1 = H) (AS_if (AB_compare (AE_methf0 175 G (fun w => by kernel_rfl) ?_))) R ?_)
    · refine AE_local (by assumption) (.head _) ?_
      refine ⟨OpMeth_accf G (mem_at U) (by decide) (fun w => by kernel_rfl) (fun w => by kernel_rfl), OpCall_of G (count_spec (mem_at U) ?_)⟩
      refine AE_int ?_
      refine OpC_eq ⟨_, rfl, fun hh => ?_, fun _ => ASs_nil ⟨rfl, rfl, rfl⟩⟩
      simp at hh
      omega
    · rintro f' s' f l' H1 T' hf R' ⟨rfl, rfl, rfl⟩
      cases hf
      refine ks_wpAt_execs_cons (ks_wpAt_Return_some ?_)
      have mU := mem_at U
      refine AT_super G (by exact ⟨by rfl, by rfl, by rfl, fun w => ⟨_, _, _, _, by rfl, _, by rfl, by rfl⟩, fun w => ⟨_, _, _, _, _, _, by rfl, by rfl, by rfl⟩⟩) rfl rfl SB_pop PySem.F.entry_list_pop (fun a => Code.quiet_builtin _ (by decide +kernel)) mU (.head _) R' (fun X I q => bnd_check_pop X I q) fun s2 N es m R2 => ?_
      obtain ⟨dx, vs, n, mm, hh, t1, t2, Z, kk⟩ := R2.accUpd U
      have hv := Z.v
      rw [List.map_append] at hv
      obtain ⟨us, ws, rfl, hus, hws⟩ := hv.split
      obtain ⟨u, rfl, hr⟩ : ∃ u, ws = [u] ∧ VR c.base N (pairAV p) u := by
        cases hws with
        | cons hr r => cases r; exact ⟨_, rfl, hr⟩
      have hul : us.length = l.length := hus.pairs
      unfold Builtin.«list.pop»
      refine wpAny_bind (wpAny_of_eq (a := (.ref a, [])) (by rfl) ?_)
      refine wpAny_bind (wpAny_pure ?_)
      show wpAny _ _ (if (!Builtin.List.listFitsIndex (-1)) = true then _ else _) _ _ _
      rw [if_neg (by decide)]
      refine wpAny_bind (m := Builtin.List.listItems (.ref a)) ?_
      unfold Builtin.List.listItems
      refine wpAny_bind (wpAny_seqItems Z.I.at_ rfl (wpAny_pure ?_))
      have e1 : (us ++ [u]).toArray.isEmpty = false := by simp
      have e2 : (seqIndex? (-1) (us ++ [u]).toArray.size).bind (fun k => (us ++ [u]).toArray[k]?.map (k, ·)) = some (us.length, u) := by
        have : seqIndex? (-1) (us ++ [u]).toArray.size = some us.length := by
          rw [List.size_toArray, List.length_append]
          unfold seqIndex?
          simp
          omega
        rw [this]
        simp
      simp only [e1, Bool.false_eq_true, if_false, e2]
      show wpAny _ _ (updateSeq a (fun xs => xs.eraseIdxIfInBounds us.length) >>= _) _ _ _
      have e3 : (us ++ [u]).toArray.eraseIdxIfInBounds us.length = us.toArray := erase_last
      have sz : sizeLine = 2 ^ 24 := rfl
      refine wpAny_bind (wpAny_updateSeq Z.I.at_ rfl ?_ (by rw [List.size_toArray, List.length_append, hul, sz]; simp; omega) (by rw [e3, List.size_toArray, hul, sz]; omega))
      refine wpAny_pure ⟨u, rfl, .ret (pairAV p), [("self", some (.ref a))], H', _, .ret, ?_, h⟩
      have R3 := R2.put hr
      obtain ⟨dx', vs', n', mm', hh', t1', t2', Z', kk'⟩ := R3.accUpd U
      have : vs' = us ++ [u] := by
        have h1 := Z'.I.at_
        rw [Z.I.at_] at h1
        have h2 := congrArg Obj.data (Option.some.inj h1)
        simp only [Data.seq.injEq] at h2
        exact (List.toArray_inj h2.1).symm
      subst this
      exact kk' _ us s2.toks e3 hus
theorem pop_nil_spec {k : Nat} {H : Own} {P : AV → Own → Prop} {a : Addr} {ini : Int} (hm : (a, AO.acc ini []) ∈ H) (h : P (pairAV ("", "")) H) : AF (k + 2) (.ref 138) [.ref a] H P := by
  refine AF_def (ds := []) ["self"] [] [("self", some (.ref a))] (fun w => by rfl) (fun w => by rfl) rfl (by decide) ?_ (by decide +kernel) ?_ (by decide)
  · intro w s args' hl hk
    obtain ⟨x, rfl⟩ := ln1 hl
    exact ⟨[], BindsTo.of_eq rfl, fun _ _ => .nil⟩
  · intro w os base outer A₀ A h₀ L X Y c G
    refine ASs_cons (AS_if (AB_compare (AE_methf0 175 G (fun w => by kernel_rfl) ?_)))
    refine AE_local (by assumption) (.head _) ?_
    refine ⟨OpMeth_accf G hm (by decide) (fun w => by kernel_rfl) (fun w => by kernel_rfl), OpCall_of G (count_spec hm ?_)⟩
    refine AE_int ?_
    refine OpC_eq ⟨_, rfl, fun hh => ?_, fun hh => absurd hh (by simp)⟩
    refine ASs_cons (AS_return (AE_tuple ?_))
    refine AEs_cons ?_; refine AE_str ?_; refine AEs_cons ?_; refine AE_str ?_; refine AEs_nil ?_
    exact ⟨by decide, h⟩
theorem push_spec {k : Nat} {H H' : Own} {P : AV → Own → Prop} {a : Addr} {ini : Int} {l : List (Str × Str)} {p : Str × Str} (U : At a (.acc ini l) (.acc ini (l ++ [p])) H H') (hl : l.length ≤ 1000000) (h : P .none H') :
    AF (k + 1) (.ref 122) [.ref a, .str p.1, .str p.2] H P := by
  refine AF_def (ds := []) ["self", "fws", "string"] [] [("self", some (.ref a)), ("fws", some (.str p.1)), ("string", some (.str p.2))] (fun w => by rfl) (fun w => by rfl) rfl (by decide) ?_ (by decide +kernel) ?_ (by decide)
  · intro w s args' hl hk
    obtain ⟨x, y, z, rfl⟩ := ln3 hl
    exact ⟨[], BindsTo.of_eq rfl, fun _ _ => .nil⟩
  · intro w os base outer A₀ A h₀ L X Y c G
    refine ASs_cons (AS_expr (AE_methb "list.append" ?_))
    refine AE_local (by assumption) (.head _) ?_
    refine ⟨OpMeth_accb G (mem_at U) (by decide) (fun w => by kernel_rfl) (by kernel_rfl), AEs_cons (AE_tuple ?_)⟩
    refine AEs_cons ?_; refine AE_local (by assumption) (mi 1 rfl) ?_; refine AEs_cons ?_; refine AE_local (by assumption) (mi 2 rfl) ?_; refine AEs_nil ?_
    refine ⟨by simp, ?_⟩
    refine AEs_nil ?_
    exact OpCall_acc_append G U hl (ASs_nil h)
theorem popfrom_spec {k : Nat} {H H' : Own} {P : AV → Own → Prop} {a : Addr} {ini : Int} {l : List (Str × Str)} {j : Nat} (hj : j ≤ l.length) (U : At a (.acc ini l) (.acc ini (l.take j)) H H') (hl : l.length ≤ 1000000) (h : P (.lst ((l.drop j).map pairAV)) H') :
    AF (k + 1) (.ref 130) [.ref a, .int j] H P := by
  refine AF_def (ds := []) ["self", "i"] ["popped"] [("self", some (.ref a)), ("i", some (.int j)), ("popped", none)] (fun w => by rfl) (fun w => by rfl) rfl (by decide) ?_ (by decide +kernel) ?_ (by decide)
  · intro w s args' hl hk
    obtain ⟨x, y, rfl⟩ := ln2 hl
    exact ⟨[], binds_K hk rfl (by rfl) rfl rfl rfl, fun _ _ => .nil⟩
  · intro w os base outer A₀ A h₀ L X Y c G
    have mU := mem_at U
    refine ASs_cons (AS_assign ?_)
    refine AE_subg ?_; refine AE_local (by assumption) (.head _) ?_
    refine AE_slice (AEO_some ?_)
    refine AE_local (by assumption) (mi 1 rfl) ?_
    refine ⟨j, rfl, AEO_none (AEO_none ?_)⟩
    refine ⟨NoPy_acc G mU, OpG_acc_from G mU (by omega) (by omega) hl ?_⟩
    (with_reducible refine St1_local (by assumption) (by with_reducible repeat first | exact SetL.head | apply SetL.tail) ?_)
    refine ASs_cons (AS_setitem (AE_freeze (AE_list ?_)))
    refine AEs_nil ?_
    refine ⟨by decide, fun q => ⟨q, [], _, rfl, rfl, ?_⟩⟩
    refine AE_local (by assumption) (.head _) ?_
    refine AE_slice (AEO_some ?_)
    refine AE_local (by assumption) (mi 1 rfl) ?_
    refine ⟨j, rfl, AEO_none (AEO_none ?_)⟩
    refine OpS_acc_slice (ys := []) (j := j) G (by simpa using U) (.inr rfl) hj hl (by simp) ?_
    refine ASs_cons (AS_return ?_)
    refine AE_local (by assumption) (mi 2 rfl) ?_
    rw [Int.toNat_natCast]
    exact h
theorem At.trans {a : Addr} {o o' : AO} {H H' : Own} (U : At a o o' H H') (x : AO) : ∃ H1, At a o x H H1 ∧ At a x o' H1 H' := by
  induction U with
  | head => exact ⟨_, .head, .head⟩
  | tail _ ih => obtain ⟨H1, h1, h2⟩ := ih; exact ⟨_, .tail h1, .tail h2⟩
theorem reset1_spec {k : Nat} {H H' : Own} {P : AV → Own → Prop} {a : Addr} {ini : Int} {l ys : List (Str × Str)} (U : At a (.acc ini l) (.acc 0 ys) H H') (hl : l.length ≤ 1000000) (hy : ys.length ≤ 1000000) (h : P .none H') :
    AF (k + 1) (.ref 160) [.ref a, .lst (ys.map pairAV)] H P := by
  refine AF_def (ds := []) ["self", "startval"] [] [("self", some (.ref a)), ("startval", some (.lst (ys.map pairAV)))] (fun w => by rfl) (fun w => by rfl) rfl (by decide) ?_ (by decide +kernel) ?_ (by decide)
  · intro w s args' hl hk
    obtain ⟨x, y, rfl⟩ := ln2 hl
    exact ⟨[], binds_K hk rfl (by rfl) rfl rfl rfl, fun _ _ => .nil⟩
  · intro w os base outer A₀ A h₀ L X Y c G
    refine ASs_cons (AS_if (AB_compare ?_))
    refine AE_local (by assumption) (mi 1 rfl) ?_; refine AE_none ?_
    refine OpC_is_lst ⟨_, rfl, fun hh => absurd hh (by decide), fun _ => ASs_nil ?_⟩
    obtain ⟨H1, U1, U2⟩ := U.trans (.acc ini ys)
    refine ASs_cons (AS_setitem ?_)
    refine AE_local (by assumption) (mi 1 rfl) ?_; refine AE_local (by assumption) (.head _) ?_
    refine AE_slice (AEO_none (AEO_none (AEO_none ?_)))
    refine OpS_acc_slice (j := 0) G (by simpa using U1) (.inl ⟨rfl, rfl⟩) (by omega) hl hy ?_
    refine ASs_cons (AS_setini G ?_)
    refine AE_int ?_; refine AE_local (by assumption) (.head _) ?_
    exact ⟨0, a, _, _, _, rfl, rfl, U2, .inr ⟨_, _, rfl, rfl⟩, ASs_nil h⟩
theorem reset0_spec {k : Nat} {H H' : Own} {P : AV → Own → Prop} {a : Addr} {ini : Int} {l : List (Str × Str)} (U : At a (.acc ini l) (.acc 0 []) H H') (hl : l.length ≤ 1000000) (h : P .none H') :
    AF (k + 1) (.ref 160) [.ref a] H P := by
  refine AF_def (ds := [.none]) ["self", "startval"] [] [("self", some (.ref a)), ("startval", some .none)] (fun w => by rfl) (fun w => by rfl) rfl (by decide) ?_ (by decide +kernel) ?_ (by decide)
  · intro w s args' hl hk
    obtain ⟨x, rfl⟩ := ln1 hl
    exact ⟨[.none], binds_K hk rfl (by rfl) rfl rfl rfl, fun _ _ => .cons .none .nil⟩
  · intro w os base outer A₀ A h₀ L X Y c G
    refine ASs_cons (AS_if (AB_compare ?_))
    refine AE_local (by assumption) (mi 1 rfl) ?_; refine AE_none ?_
    refine OpC_is_none ⟨_, rfl, fun _ => ASs_cons (AS_assign (AE_freeze (AE_list ?_))), fun hh => absurd hh (by decide)⟩
    refine AEs_nil ?_
    refine ⟨by decide, fun q => ⟨q, [], _, rfl, rfl, ?_⟩⟩
    (with_reducible refine St1_local (by assumption) (by with_reducible repeat first | exact SetL.head | apply SetL.tail) ?_)
    refine ASs_nil ?_
    obtain ⟨H1, U1, U2⟩ := U.trans (.acc ini [])
    refine ASs_cons (AS_setitem ?_)
    refine AE_local (by assumption) (mi 1 rfl) ?_; refine AE_local (by assumption) (.head _) ?_
    refine AE_slice (AEO_none (AEO_none (AEO_none ?_)))
    refine OpS_acc_slice (j := 0) (ys := []) G (by simpa using U1) (.inl ⟨rfl, rfl⟩) (by omega) hl (by decide) ?_
    refine ASs_cons (AS_setini G ?_)
    refine AE_int ?_; refine AE_local (by assumption) (.head _) ?_
    exact ⟨0, a, _, _, _, rfl, rfl, U2, .inr ⟨_, _, rfl, rfl⟩, ASs_nil h⟩
end
section
section
variable {c : Cx} {loc : Loc} {H H' : Own} {T : Tmp} {s : Shared} {N es : Led} {m : Str → Option Value} {a : Addr} {ini : Int} {l : List (Str × Str)} {k : Nat}
theorem RepW.kept (R : RepW c loc H T s N es m) {s' : Shared} (hk : ∀ b o, s.heap.get? b = some o → s'.heap.get? b = some o) (hg : AllBare s'.gens) (ho : s'.os = s.os) : RepW c loc H T s' N es m := by
  obtain ⟨oL, a1, a2, hoL, a3⟩ := R.F.ns
  exact ⟨⟨⟨oL, a1, a2, hk _ _ hoL, a3⟩, fun b o e => hk _ _ (R.F.keep b o e), R.F.above⟩, fun p hp => ⟨hk _ _ (R.nw p hp).1, (R.nw p hp).2⟩, R.nd, R.own, R.yk, R.tmp, R.loc, hg, ho.trans R.os⟩
theorem At.self {o : AO} : ∀ {H : Own}, (a, o) ∈ H → At a o o H H
  | _ :: _, .head _ => .head
  | _ :: _, .tail _ h => .tail (At.self h)
theorem next_item {A : Around} {w : World} {it lx : Addr} {i n : Nat} {items : Array Value} {x : Value} {ol : Obj} {Q : Option Value → Shared → Prop} {E : Value → Shared → Prop} (hit : s.heap.IsListIter it lx i) (hl : s.heap.get? lx = some ol) (hd : ol.data = .seq items n) (hx : items[i]? = some x)
    (hQ : ∀ h', h'.IsListIter it lx (i + 1) → Heap.SameBut it s.heap h' → Q (some x) { s with heap := h' }) : wpAny (model pg w) A (pyNext (.ref it)) Q E s := by
  obtain ⟨o, ho, hc, hdt⟩ := id hit
  unfold pyNext
  refine wpAny_bind (wpAny_attempt (wpAny_callSpecial?_slot (name := Str.ofString "__next__") hit.typeIs slot_listiter_next (wpAny_call_entry slot_listiter_next hit.typeIs entry_listiter_next ?_ (args_listiter_next _))))
  show wpAny _ _ (field (.ref it) 0 >>= _) _ _ s
  refine wpAny_bind (wpAny_field ho hdt (x := .ref lx) rfl ?_)
  show wpAny _ _ (if (Value.ref lx == Value.none) = true then _ else _) _ _ s
  rw [if_neg (show ¬ ((Value.ref lx == Value.none) = true) from Bool.false_ne_true)]
  show wpAny _ _ (field (.ref it) 1 >>= _) _ _ s
  refine wpAny_bind (wpAny_field ho hdt (x := .int i 0) rfl ?_)
  show wpAny _ _ (seqItems? (.ref lx) >>= _) _ _ s
  refine wpAny_bind (wpAny_seqItems hl hd ?_)
  simp only [Int.toNat_natCast, hx]
  refine wpAny_bind (wpAny_setField ho hdt (by simp) (wpAny_pure ⟨x, rfl, wpAny_pure (hQ _ ?_ (Heap.SameBut.update ..))⟩))
  exact ⟨_, Heap.get?_update_self _ ho (Obj.isFreed_of_fields (Obj.data_mapFields hdt _)), (Obj.cls_mapFields ..).trans hc, by rw [Obj.data_mapFields hdt]; simp [rawInt]⟩
theorem next_end {A : Around} {w : World} {it lx : Addr} {i n : Nat} {items : Array Value} {ol : Obj} {Q : Option Value → Shared → Prop} {E : Value → Shared → Prop} (hh : A.handled = none) (hit : s.heap.IsListIter it lx i) (hl : s.heap.get? lx = some ol) (hd : ol.data = .seq items n) (hx : items[i]? = none)
    (hQ : ∀ h', Heap.ExtBut it s.heap h' → Q none { s with heap := h' }) : wpAny (model pg w) A (pyNext (.ref it)) Q E s := by
  obtain ⟨o, ho, hc, hdt⟩ := id hit
  unfold pyNext
  refine wpAny_bind (wpAny_attempt (wpAny_callSpecial?_slot (name := Str.ofString "__next__") hit.typeIs slot_listiter_next (wpAny_call_entry slot_listiter_next hit.typeIs entry_listiter_next ?_ (args_listiter_next _))))
  show wpAny _ _ (field (.ref it) 0 >>= _) _ _ s
  refine wpAny_bind (wpAny_field ho hdt (x := .ref lx) rfl ?_)
  show wpAny _ _ (if (Value.ref lx == Value.none) = true then _ else _) _ _ s
  rw [if_neg (show ¬ ((Value.ref lx == Value.none) = true) from Bool.false_ne_true)]
  show wpAny _ _ (field (.ref it) 1 >>= _) _ _ s
  refine wpAny_bind (wpAny_field ho hdt (x := .int i 0) rfl ?_)
  show wpAny _ _ (seqItems? (.ref lx) >>= _) _ _ s
  refine wpAny_bind (wpAny_seqItems hl hd ?_)
  simp only [Int.toNat_natCast, hx]
  refine wpAny_bind (wpAny_rule (wpAny_bind (wpAny_setField ho hdt (by simp) ?_)))
  show wpAny _ _ (newExc (.type "StopIteration") [] >>= _) _ _ _
  refine wpAny_bind ?_
  simp only [newExc, newTuple]
  refine wpAny_bind (wpAny_newObj_type ?_ (by size_fits))
  refine wpAny_bind (m := firstArgMember _ _) (wpAny_of_eq (a := Value.none) (by first | rfl | (simp only [firstArgMember]; rfl)) ?_)
  refine wpAny_newObj_type ?_ (by size_fits)
  simp only [raiseNew]
  refine wpAny_bind (wpAny_handled ?_)
  rw [show A.in1.handled = none from hh]
  refine wpAny_bind (wpAny_pure (wpAny_throw ?_))
  refine wpAny_bind (wpAny_isInstance (T := "StopIteration") (b := true) ⟨_, Heap.get?_push_size _ rfl, rfl⟩ isSubtype_stop ?_)
  exact wpAny_pure (hQ _ (((Heap.SameBut.update ..).extBut.push _).push _))
theorem accWalks {w : World} {A : Around} (hh : A.handled = none) (I ax : Addr) (ol : Obj) (n : Nat) (items : Array Value) (hd : ol.data = .seq items n) (hne : ax ≠ I) (Ts : Nat → Addr) (vals : Nat → Array Value)
    (hit : ∀ j, j < items.size → items[j]? = some (.ref (Ts j))) (hTI : ∀ j, j < items.size → Ts j ≠ I) :
    WalksU pg w A I (I :: ax :: (List.range items.size).map Ts) [I] items.size (fun j v => j < items.size ∧ v = vals j)
      (fun j h => h.IsListIter I ax j ∧ h.get? ax = some ol ∧ ∀ k, k < items.size → h.IsTuple (Ts k) (vals k))
      (fun j T h => (j < items.size ∧ T = Ts j) ∧ h.IsListIter I ax (j + 1) ∧ h.get? ax = some ol ∧ ∀ k, k < items.size → h.IsTuple (Ts k) (vals k)) where
  sub := fun b hb => by simp at hb; simp [hb]
  frame := fun _ _ _ st hk => ⟨st.1.at fun o e => hk I (by simp) o e, hk ax (by simp) _ st.2.1,
    fun k hk' => (st.2.2 k hk').at fun o e => hk (Ts k) (List.mem_cons_of_mem _ (List.mem_cons_of_mem _ (List.mem_map.mpr ⟨k, List.mem_range.mpr hk', rfl⟩))) o e⟩
  item := fun i s Q E hi st hQ => by
    refine next_item st.1 st.2.1 hd (x := .ref (Ts i)) (hit i hi) fun h' hit' hs' => ?_
    have tup : ∀ k, k < items.size → h'.IsTuple (Ts k) (vals k) := fun k hk' => (st.2.2 k hk').extBut hs'.extBut (hTI k hk')
    exact hQ (Ts i) (vals i) h' s.toks ⟨hi, rfl⟩ (tup i hi) ⟨⟨hi, rfl⟩, hit', hs'.extBut _ _ hne st.2.1, tup⟩ fun b o hb e => hs'.extBut b o (fun h => hb (by simp [h])) e
  go := fun _ _ _ _ _ s Q _ hm hQ => wpAny_letOwnedTupleGo_listiter hm.2.1 (hQ s.heap hm.2 fun _ _ _ e => e)
  apart := fun j T _ hm hmem => by
    rcases List.mem_cons.mp hmem with e | e
    · exact hTI j hm.1.1 (hm.1.2 ▸ e)
    · cases e
  done := fun s Q E st hQ => next_end hh st.1 st.2.1 hd (by simp) fun h' he' => hQ h' s.toks fun b o hb e => he' b o (fun h => hb (by simp [h])) e
  self := fun _ _ _ _ st hQ => wpAny_pyIter_listiter st.1 hQ
theorem acc_iter {A : Around} {w : World} {od : Option Obj} {ox : Obj} {Q : Value → Shared → Prop} {E : Value → Shared → Prop} (X : (KF w).In s.heap) (I : W.InstAt s.heap a ox CAcc od)
    (hQ : Q (.ref s.heap.objs.size) { s with heap := s.heap.push { cls := .type "list_iterator", data := .fields #[.ref a, .int 0 0] } }) : wpAny (model pg w) A (pyIter (.ref a)) Q E s := by
  unfold pyIter specialOf
  refine wpAny_bind (wpAny_bind (looksOn I.type (fun _ _ e => e) (looksOn (looks_findIn X (r := some (.builtin "list.__iter__")) (by kernel_rfl)) (fun _ _ e => e) ?_)))
  dsimp only
  unfold callSpecialIfBoundUnlessNone? bindSpecialIfBound? specialOf
  have fin : wpAny (model pg w) A (call (.builtin "list.__iter__") [.ref a]) (fun it s' => it = .ref s.heap.objs.size ∧ s' = { s with heap := s.heap.push { cls := .type "list_iterator", data := .fields #[.ref a, .int 0 0] } }) E s := by
    refine below_call S_iter X I (args_list_iter _) ?_
    show wpAny _ _ (do ret (← newFields "list_iterator" [.ref a, rawInt 0])) _ _ s
    exact wpAny_bind (wpAny_newObj_type (wpAny_pure ⟨_, rfl, rfl, rfl⟩))
  refine wpAny_bind (wpAny_holding (wpAny_bind (wpAny_bind (wpAny_bind (looksOn I.type (fun _ _ e => e) (looksOn (looks_findIn X (r := some (.builtin "list.__iter__")) (by kernel_rfl)) (fun _ _ e => e) ?_))))))
  dsimp only
  refine wpAny_bind (wpAny_askSetting (wpAny_ite ?_))
  rw [bind_iter]
  split
  · refine wpAny_bind (wpAny_pure (wpAny_pure ?_))
    dsimp only
    rw [if_neg (by decide)]
    refine wpAny_bind (wpAny_mono fin (fun it s' ⟨e1, e2⟩ => ?_) fun _ _ e => e)
    subst e1 e2
    refine wpAny_pure (wpAny_bind (wpAny_bind (wpAny_typeOf (T := "list_iterator") ⟨_, Heap.get?_push_size _ rfl, rfl⟩ (wpAny_of_eq slot_listiter_next.lookup ?_))))
    exact wpAny_pure hQ
  · refine wpAny_tryCatch (wpAny_bind (wpAny_pure (wpAny_pure ?_)))
    dsimp only
    rw [if_neg (by decide)]
    refine wpAny_bind (wpAny_mono fin (fun it s' ⟨e1, e2⟩ => ?_) fun _ _ e => e)
    subst e1 e2
    refine wpAny_pure (wpAny_bind (wpAny_bind (wpAny_typeOf (T := "list_iterator") ⟨_, Heap.get?_push_size _ rfl, rfl⟩ (wpAny_of_eq slot_listiter_next.lookup ?_))))
    exact wpAny_pure hQ
end
end
section
inductive CodeTab (w : World) (cda P : Addr) : Prop
  | intro (od : Option Addr) (vs : Array Value) (sl : Array (Option Value)) (file : Str) (tf : Tok) (flags : Int) (tg : Tok) (inF : Bool) (text : Int) (tt : Tok) (hK : (KF w).lookup cda = some ⟨.type "code", od, .fields vs, sl⟩) (e1 : vs.getD 11 .none = .ref P) (e2 : vs.getD 18 .none = .str file tf)
      (e3 : vs.getD 7 .none = .int flags tg) (e4 : vs.getD 9 .none = .bool inF) (e5 : vs.getD 10 .none = .int text tt) (e6 : vs[11]? = some (.ref P)) (hne : cda ≠ P)
theorem tab_len (w : World) : CodeTab w 144 140 := ⟨_, _, _, _, _, _, _, _, _, _, by rfl, by rfl, by rfl, by rfl, by rfl, by rfl, by rfl, by decide⟩
theorem tab_str (w : World) : CodeTab w 151 147 := ⟨_, _, _, _, _, _, _, _, _, _, by rfl, by rfl, by rfl, by rfl, by rfl, by rfl, by rfl, by decide⟩
section
variable {c : Cx} {loc : Loc} {H H' : Own} {T : Tmp} {s : Shared} {N es : Led} {m : Str → Option Value} {a P cda : Addr} {ini : Int} {l : List (Str × Str)} {k : Nat}
inductive BackB (c : Cx) (loc : Loc) (H' : Own) (T : Tmp) (s : Shared) (N es : Led) (m : Str → Option Value) : Prop
  | intro (es' : Led) (R : RepW c loc H' T s N es' m) (h : (N ++ es').map (·.1) = (N ++ es).map (·.1))
inductive UpdB (c : Cx) (loc : Loc) (H' : Own) (T : Tmp) (s : Shared) (N es : Led) (m : Str → Option Value) (a : Addr) (o' : AO) (e1 : Led) (d : Addr) (ob : Obj) (e2 : Led) : Prop
  | intro (P Q : Led) (e : N ++ es = P ++ (d, ob) :: Q) (h1 : ∀ p ∈ P, p.1 ≠ d) (h2 : ∀ p ∈ Q, p.1 ≠ d)
      (fin : ∀ ob' h' tk, OR c.base N a o' (e1 ++ (d, ob') :: e2) → Fr c.h₀ c.L h' m → News c.h₀ c.L h' (P ++ (d, ob') :: Q) → BackB c loc H' T { s with heap := h', toks := tk } N es m)
inductive HasUpdB (c : Cx) (loc : Loc) (H' : Own) (T : Tmp) (s : Shared) (N es : Led) (m : Str → Option Value) (a : Addr) (o o' : AO) : Prop
  | intro (e : Led) (h : OR c.base N a o e) (k : ∀ e1 d ob e2, e = e1 ++ (d, ob) :: e2 → UpdB c loc H' T s N es m a o' e1 d ob e2)
theorem RepW.updB (R : RepW c loc H T s N es m) {o o' : AO} (U : At a o o' H H') : HasUpdB c loc H' T s N es m a o o' := by
  obtain ⟨pre, e, post, rfl, ho, k⟩ := R.own.at U
  refine ⟨e, ho, ?_⟩
  rintro e1 d ob e2 rfl
  have e' : ∀ ob', N ++ (pre ++ ((e1 ++ (d, ob') :: e2) ++ post)) = (N ++ pre ++ e1) ++ (d, ob') :: (e2 ++ post) := fun ob' => by simp
  have nd := R.nd
  rw [e' ob] at nd
  obtain ⟨h1, h2⟩ := nodup_split nd
  refine ⟨_, _, e' ob, h1, h2, fun ob' h' tk ho' F nw => ⟨_, ⟨F, ?_, ?_, k N _ (fun p hp => hp) ho', R.yk, R.tmp, R.loc, R.gens, R.os⟩, ?_⟩⟩
  · rw [e' ob']; exact nw
  · rw [e' ob']
    rw [List.map_append, List.map_cons] at nd ⊢
    exact nd
  · rw [e' ob', e' ob]; simp only [List.map_append, List.map_cons]
inductive RepB (K : Nat) (c : Cx) (loc : Loc) (H : Own) (T : Tmp) (s : Shared) : Prop
  | intro (N es : Led) (m : Str → Option Value) (R : RepW c loc H T s N es m) (b : ∀ x ∈ (N ++ es).map (·.1), x < K) (l : c.L < K)
theorem RepB.moved {K : Nat} {s' : Shared} (R : RepB K c loc H T s) (hk : ∀ b o, b < K → s.heap.get? b = some o → s'.heap.get? b = some o) (hg : AllBare s'.gens) (ho : s'.os = s.os) : RepB K c loc H T s' := by
  obtain ⟨N, es, m, R, hb, hL⟩ := R
  obtain ⟨oL, a1, a2, hoL, a3⟩ := R.F.ns
  refine ⟨N, es, m, ⟨⟨⟨oL, a1, a2, hk _ _ hL hoL, a3⟩, fun b o e => hk _ _ ?_ (R.F.keep b o e), R.F.above⟩, fun p hp => ⟨hk _ _ (hb _ (List.mem_map_of_mem hp)) (R.nw p hp).1, (R.nw p hp).2⟩, R.nd, R.own, R.yk, R.tmp, R.loc, hg, ho.trans R.os⟩, hb, hL⟩
  exact Nat.lt_trans (Nat.lt_of_lt_of_le (Heap.lt_size e) R.F.above) hL
theorem RepB.rep {K : Nat} (R : RepB K c loc H T s) : Rep c loc H T s := RepB.casesOn R fun N es m R _ _ => ⟨N, es, m, R⟩
theorem gencode {K : Nat} {A : Around} {E : Value → Shared → Prop} {pos : Pos} {q : Str} {scope : Scope} {Q : Value → Shared → Prop} (G : c.Good k) (R : RepW c loc H T s N es m) (ht : (P, AO.table pos.line pos.col) ∈ H) (hcd : c.cd = .ref cda) (hct : CodeTab c.w cda P) (hbK : ∀ x ∈ (N ++ es).map (·.1), x < K) (hLK : c.L < K)
    (hQ : ∀ code s', RepB K c loc H T s' → (∀ b o, b ≠ P → s.heap.get? b = some o → s'.heap.get? b = some o) → s.heap.objs.size ≤ s'.heap.objs.size → s'.gens = s.gens → Q code s') :
    wpAny (model pg c.w) A (genexprCode c.env pos q scope) Q E s := by
  obtain ⟨od, vs, sl, file, tf, flags, tg, inF, text, tt, hK, e1, e2, e3, e4, e5, e6, hne⟩ := hct
  have X := R.KI G
  have hco := X _ _ hK
  obtain ⟨e, ho, kk⟩ := R.updB (At.self ht)
  rcases ho.table_inv with rfl | ⟨c', rfl⟩
  · obtain ⟨Pr, Po, e', q1, q2, fin⟩ := kk [] P _ [] rfl
    have hP : s.heap.get? P = some (tabO #[]) := (R.nw (P, tabO #[]) (by rw [e']; simp)).1
    have hnP := (R.nw (P, tabO #[]) (by rw [e']; simp)).2
    have hok : s.heap.IsCode cda P #[] := ⟨_, vs, file, tf, flags, tg, inF, text, tt, _, hco, rfl, e1, e2, e3, e4, e5, hP, rfl, trivial, hne⟩
    have htb : s.heap.TableAt cda P #[] := ⟨⟨_, vs, hco, rfl, rfl, e6⟩, hP⟩
    refine wpAny_genexprCodeX hcd hok htb (by rfl) fun c' h' tk hx hge hlt hcode _ htab _ => ?_
    have hx' : ∀ b o, b ≠ P → s.heap.get? b = some o → h'.get? b = some o := hx
    have F' : Fr c.h₀ c.L h' m := by
      obtain ⟨oL, a1, a2, hoL, a3⟩ := R.F.ns
      refine ⟨⟨oL, a1, a2, hx' _ _ (Ne.symm hnP.1) hoL, a3⟩, fun b o e => hx' _ _ (fun q => ?_) (R.F.keep b o e), R.F.above⟩
      rw [q, hnP.2] at e; cases e
    have N' : News c.h₀ c.L h' (Pr ++ (P, tabO #[rawInt pos.line, rawInt pos.col, .ref c']) :: Po) := by
      have nw := R.nw
      rw [e'] at nw
      intro p hp
      rcases List.mem_append.mp hp with hp | hp
      · have := nw p (List.mem_append_left _ hp)
        exact ⟨hx' _ _ (q1 p hp) this.1, this.2⟩
      · rcases List.mem_cons.mp hp with rfl | hp
        · exact ⟨by simpa using htab.2, hnP⟩
        · have := nw p (List.mem_append_right _ (.tail _ hp))
          exact ⟨hx' _ _ (q2 p hp) this.1, this.2⟩
    obtain ⟨es', R', hes⟩ := fin (tabO #[rawInt pos.line, rawInt pos.col, .ref c']) h' tk .tab1 F' N'
    refine hQ _ _ ⟨N, es', m, R', fun x hx => ?_, hLK⟩ hx' (Nat.le_trans hge (Nat.le_of_lt hlt)) rfl
    rw [hes] at hx
    exact hbK x hx
  · obtain ⟨Pr, Po, e', q1, q2, fin⟩ := kk [] P _ [] rfl
    have hP : s.heap.get? P = some (tabO #[rawInt pos.line, rawInt pos.col, .ref c']) := (R.nw (P, tabO #[rawInt pos.line, rawInt pos.col, .ref c']) (by rw [e']; simp)).1
    have hok : s.heap.IsCode cda P #[rawInt pos.line, rawInt pos.col, .ref c'] := ⟨_, vs, file, tf, flags, tg, inF, text, tt, _, hco, rfl, e1, e2, e3, e4, e5, hP, rfl, trivial, hne⟩
    refine wpAny_genexprCode_hit hcd hok (c' := .ref c') ?_ (hQ _ _ ⟨N, es, m, R, hbK, hLK⟩ (fun b o _ e => e) (Nat.le_refl _) rfl)
    simp [codeAmong, rawInt]
theorem VRs.pairAt {B : Heap} {N : Led} {vs : List Value} (h : VRs B N (l.map pairAV) vs) {j : Nat} {p : Str × Str} (hp : l[j]? = some p) : ∃ t t1 t2, vs[j]? = some (.ref t) ∧ (t, tupO [.str p.1 t1, .str p.2 t2]) ∈ N := by
  obtain ⟨v, hv, hr⟩ := h.get (i := j) (x := pairAV p) (by rw [List.getElem?_map, hp]; rfl)
  obtain ⟨t, us, rfl, hN, hus⟩ := hr.tup_inv
  obtain ⟨v1, v2, rfl, h1, h2⟩ := hus.inv2
  obtain ⟨t1, rfl⟩ := h1.str_inv
  obtain ⟨t2, rfl⟩ := h2.str_inv
  exact ⟨t, _, _, hv, hN⟩
end
end
section
section
variable {c : Cx} {loc : Loc} {H H' : Own} {T : Tmp} {s : Shared} {N es : Led} {m : Str → Option Value} {a P cda : Addr} {ini : Int} {l : List (Str × Str)} {k : Nat}
theorem gen_acc {elt : Expr} {xa xb : Str} {pa pb pt ps : Pos} {kt : Nat} {scope : Scope} {pos : Pos} {Q : Value → Shared → Prop} (G : c.Good k) (R : RepW c loc H T s N es m) (hm : (a, AO.acc ini l) ∈ H) (hself : ("self", some (AV.ref a)) ∈ loc) (hp0 : 0 < s.heap.objs.size)
    (ht : (P, AO.table pos.line pos.col) ∈ H) (hcd : c.cd = .ref cda) (hct : CodeTab c.w cda P) (hco : scope.isCoroutine = false) (hclos : closureFor scope c.env = pure []) (hcell : ∀ y ∈ scope.names, y.2 ≠ .cell) (h0 : scope.names.lookup (".0" : Str) = some NameKind.local)
    (hxa : scope.names.lookup xa = some .local) (hxb : scope.names.lookup xb = some .local) (hab : xa ≠ xb) (hkind : scope.kind = .function) {F : Nat → Value → Prop}
    (helt : ∀ (A' : Around) E' i p t1 t2 (s₂ : Shared) m₂ code C mg mb, A'.handled = none → l[i]? = some p → s₂.heap.Ns C m₂ → m₂ xa = some (.str p.1 t1) → m₂ xb = some (.str p.2 t2) → TopX c.h₀ mg mb → s₂.heap.Ns mainGlobals mg → s₂.heap.Ns builtinsNs mb →
      wpAny (model pg c.w) A' (eval elt (genEnv scope [] C code builtinsNs c.env)) (fun y s₃ => F i y ∧ Keeps s₂ s₃) E' s₂)
    (hQ : ∀ g s5, (∀ s', (∀ b o, b < s.heap.objs.size → s5.heap.get? b = some o → s'.heap.get? b = some o) → AllBare s'.gens → s'.os = s5.os → Rep c loc H T s') → Rep c loc H T s5 → AllBare s5.gens → (∀ b o, b ≠ P → s.heap.get? b = some o → s5.heap.get? b = some o) → Gen pg c.w c.A (s.heap.objs.size - 1) g l.length F s5 → Q (.ref g) s5) :
    wpAny (model pg c.w) c.A (eval (.GeneratorExp elt [⟨.Tuple [.Name xa pa, .Name xb pb] kt pt, .Name "self" ps, [], 0⟩] scope pos) c.env) Q (fun _ _ => False) s := by
  obtain ⟨mg, mb, top⟩ := G.top
  obtain ⟨bm, ob, BM⟩ := top.bmod
  obtain ⟨dx, vs, n, mm, hh, t1, t2, Z⟩ := R.accAt hm
  have X := R.KI G
  have hln : vs.length = l.length := Z.v.pairs
  obtain ⟨q1, q2⟩ := Bool.and_eq_true_iff.mp (R.loc.kd "self" (List.mem_map.mpr ⟨_, hself, rfl⟩))
  obtain ⟨sv, hsv, hsvr⟩ := R.loc.is _ _ hself
  obtain rfl : sv = .ref a := hsvr.inv
  have haP : a ≠ P := by
    rintro rfl
    obtain ⟨e, ho, he⟩ := R.get ht
    have h1 := Z.I.at_
    rcases ho.table_inv with rfl | ⟨_, rfl⟩ <;> exact absurd (congrArg Obj.cls (Option.some.inj (h1.symm.trans (R.nw _ (he _ (.head _))).1))) (by simp)
  have hPo : ∃ ps, s.heap.get? P = some (tabO ps) := by
    obtain ⟨e, ho, he⟩ := R.get ht
    rcases ho.table_inv with rfl | ⟨_, rfl⟩ <;> exact ⟨_, (R.nw _ (he _ (.head _))).1⟩
  obtain ⟨pso, hPo⟩ := hPo
  have noP : ∀ {b o}, s.heap.get? b = some o → o.cls ≠ .none → b ≠ P := fun e hc q => by rw [q, hPo] at e; cases e; exact hc rfl
  have hP0 : c.h₀.get? P = none := by
    obtain ⟨e, ho, he⟩ := R.get ht
    rcases ho.table_inv with rfl | ⟨_, rfl⟩ <;> exact (R.nw _ (he _ (.head _))).2.2
  have keep0 : ∀ b o, c.h₀.get? b = some o → s.heap.get? b = some o ∧ b ≠ P := fun b o e => ⟨R.F.keep b o e, fun q => by rw [q, hP0] at e; cases e⟩
  let Ts : Nat → Addr := fun j => match vs[j]? with | some (.ref t) => t | _ => 0
  let vals : Nat → Array Value := fun j => match s.heap.get? (Ts j) with | some o => (match o.data with | .seq it _ => it | _ => #[]) | none => #[]
  have key : ∀ j p, l[j]? = some p → ∃ t1 t2, vs[j]? = some (.ref (Ts j)) ∧ s.heap.get? (Ts j) = some (tupO [.str p.1 t1, .str p.2 t2]) ∧ vals j = #[.str p.1 t1, .str p.2 t2] := fun j p hp => by
    obtain ⟨t, t1, t2, h1, h2⟩ := Z.v.pairAt hp
    have e1 : Ts j = t := by show (match vs[j]? with | some (.ref t) => t | _ => 0) = t; rw [h1]
    have e2 := (R.nw _ (List.mem_append_left _ h2)).1
    refine ⟨t1, t2, by rw [e1]; exact h1, by rw [e1]; exact e2, ?_⟩
    show (match s.heap.get? (Ts j) with | some o => (match o.data with | .seq it _ => it | _ => #[]) | none => #[]) = _
    rw [e1, e2]
  have hsz : vs.toArray.size = l.length := by rw [List.size_toArray, hln]
  have hget : ∀ j, j < vs.toArray.size → ∃ p, l[j]? = some p := fun j hj => ⟨l[j]'(by omega), List.getElem?_eq_getElem _⟩
  refine wpAny_GeneratorExp_walksQT G.room.handled hco hclos hcell h0 hxa hxb hab hkind (by have := G.room.depth; show c.A.depth < 1000; omega) ?_ (by intro x; rfl)
  refine nameX_L (cl := c.cells) R.F hsv ?_ G.kind (of_decide_eq_true q1) (by simpa using q2)
  refine acc_iter X Z.I ?_
  have R1 : RepW c loc H T { s with heap := s.heap.push { cls := .type "list_iterator", data := .fields #[.ref a, .int 0 0] } } N es m := R.kept (fun b o e => Heap.get?_push_of_some _ e) R.gens rfl
  have hsz1 : (s.heap.push { cls := .type "list_iterator", data := .fields #[.ref a, .int 0 0] }).objs.size = s.heap.objs.size + 1 := Heap.size_push ..
  refine ⟨top.nolimit.keeps R1.F.keep, gencode G R1 ht hcd hct (fun x hx => by obtain ⟨p, hp, rfl⟩ := List.mem_map.mp hx; exact Heap.lt_size (R.nw p hp).1) R.F.ns.lt fun code s4 R4 k4 z4 g4 => ?_⟩
  obtain ⟨N4, es4, m4, R4, hbK, hLK⟩ := R4
  have BM4 := BM.keeps R4.F.keep
  refine wpAny_builtinsFor BM4.ns BM4.name BM4.ne BM4.obj BM4.cls BM4.dict BM4.data ?_
  have k04 : ∀ b o, b ≠ P → s.heap.get? b = some o → s4.heap.get? b = some o := fun b o hb e => k4 b o hb (Heap.get?_push_of_some _ e)
  have hI : (s.heap.push { cls := .type "list_iterator", data := .fields #[.ref a, .int 0 0] }).IsListIter s.heap.objs.size a 0 := ⟨_, Heap.get?_push_size _ rfl, rfl, rfl⟩
  have hPlt : P < s.heap.objs.size := Heap.lt_size hPo
  have hI4 : s4.heap.IsListIter s.heap.objs.size a 0 := by
    obtain ⟨o, e, r⟩ := hI
    exact ⟨o, k4 _ _ (Nat.ne_of_gt hPlt) e, r⟩
  have hs4 : s.heap.objs.size + 1 ≤ s4.heap.objs.size := by rw [← hsz1]; exact z4
  have hlt4 : ∀ {b o}, s.heap.get? b = some o → b < s4.heap.objs.size := fun e => Nat.lt_of_lt_of_le (Nat.lt_succ_of_lt (Heap.lt_size e)) hs4
  refine ⟨s.heap.objs.size, _, [s.heap.objs.size], vs.toArray.size, _, _, _, fun _ => true, F, rfl, fun A' hA => accWalks hA s.heap.objs.size a (accO CAcc dx vs n) n vs.toArray rfl (Nat.ne_of_lt (Heap.lt_size Z.I.at_)) Ts vals (fun j hj => ?_) (fun j hj => ?_), ?_, ?_, ?_, top.nolimit.keeps R4.F.keep, ?_, ?_, ?_⟩
  · obtain ⟨p, hp⟩ := hget j hj
    obtain ⟨u1, u2, h1, -, -⟩ := key j p hp
    simpa using h1
  · obtain ⟨p, hp⟩ := hget j hj
    obtain ⟨u1, u2, -, h1, -⟩ := key j p hp
    exact Nat.ne_of_lt (Heap.lt_size h1)
  · rintro i v ⟨hi, rfl⟩
    obtain ⟨p, hp⟩ := hget i hi
    obtain ⟨u1, u2, -, -, h1⟩ := key i p hp
    exact ⟨_, _, h1⟩
  · refine ⟨hI4, k04 _ _ haP Z.I.at_, fun j hj => ?_⟩
    obtain ⟨p, hp⟩ := hget j hj
    obtain ⟨u1, u2, -, h1, h2⟩ := key j p hp
    rw [h2]
    exact ⟨_, k04 _ _ (noP h1 (by simp)) h1, rfl, 0, rfl⟩
  · intro b hb
    rcases List.mem_cons.mp hb with rfl | hb
    · exact hs4
    · rcases List.mem_cons.mp hb with rfl | hb
      · exact hlt4 Z.I.at_
      · obtain ⟨j, hj, rfl⟩ := List.mem_map.mp hb
        obtain ⟨p, hp⟩ := hget j (List.mem_range.mp hj)
        obtain ⟨u1, u2, -, h1, -⟩ := key j p hp
        exact hlt4 h1
  · intro hb
    have h1 : cStatics = s.heap.objs.size := by simpa using hb
    obtain ⟨_, hn, _⟩ := top.nolimit.keeps R.F.keep
    exact absurd hn.lt (by rw [h1]; exact Nat.lt_irrefl _)
  · intro href hk
    have old : ∀ (s₂ : Shared), (∀ b ∈ List.range s4.heap.objs.size, b ∉ [s.heap.objs.size] → ∀ o, href.get? b = some o → s₂.heap.get? b = some o) → ∀ b o, c.h₀.get? b = some o → s₂.heap.get? b = some o := fun s₂ hs b o e => by
      have h4 := R4.F.keep _ _ e
      refine hs b (List.mem_range.mpr (Heap.lt_size h4)) (fun q => ?_) o (hk _ _ h4)
      have h1 : b = s.heap.objs.size := by simpa using q
      exact absurd (Heap.lt_size (R.F.keep _ _ e)) (by rw [h1]; exact Nat.lt_irrefl _)
    refine ⟨fun A' E' i va vb s₂ m₂ hA hPt hn ha hb hs => ?_, fun A' E' i va vb s₂ m₂ hA hPt _ hn ha hb hs => ?_⟩
    · exact wpAny_pure ⟨rfl, s₂.heap, s₂.toks, rfl, fun b o e => e⟩
    · obtain ⟨hi, hv⟩ := hPt
      obtain ⟨p, hp⟩ := hget i hi
      obtain ⟨u1, u2, -, -, h2⟩ := key i p hp
      rw [h2] at hv
      have hva : va = .str p.1 u1 := by have := congrArg (fun x : Array Value => x[0]?) hv; simpa using this
      have hvb : vb = .str p.2 u2 := by have := congrArg (fun x : Array Value => x[1]?) hv; simpa using this
      subst hva hvb
      exact helt A' E' i p u1 u2 s₂ m₂ code _ mg mb hA hp hn ha hb top (top.g.keeps (old s₂ hs)) (top.b.keeps (old s₂ hs))
  · intro g h5 tk gs hgb hlt hsz5 hk5 W hat
    have e1 : (passing (fun _ => true) vs.toArray.size 0) = List.range l.length := by
      unfold passing
      simp [hln]
    have R5 : RepW c loc H T { s4 with gens := s4.gens.push gs, toks := tk, heap := h5 } N4 es4 m4 := R4.kept (s' := { s4 with gens := s4.gens.push gs, toks := tk, heap := h5 }) hk5 (R4.gens.push hgb) rfl
    refine hQ g _ (fun s' h1 h2 h3 => (RepB.moved ⟨N4, es4, m4, R5, hbK, hLK⟩ h1 h2 h3).rep) R5.rep R5.gens (fun b o hb e => hk5 _ _ (k04 b o hb e)) ?_
    rw [e1] at W
    refine ⟨g :: s4.heap.objs.size :: List.range s4.heap.objs.size, s4.heap.objs.size :: [s.heap.objs.size], s4.gens.size, _, ?_, hat, (fun i s' st => st.1.typeIs), List.mem_cons_self, ?_, ?_⟩
    · have W2 := W
      rw [List.length_range] at W2
      refine ⟨W2.sub, W2.grefl, W2.gtrans, W2.frame, fun i s Q E hi st hQ => W2.item i s Q E hi st fun v s' hP st' mv => hQ v s' ?_ st' mv, W2.done, W2.self⟩
      obtain ⟨i', hi', hF⟩ := hP
      rw [List.getElem?_range hi] at hi'
      cases hi'
      exact hF
    · intro b hb
      show b < h5.objs.size
      rw [hsz5]
      rcases List.mem_cons.mp hb with rfl | hb
      · exact Nat.lt_succ_self _
      · rcases List.mem_cons.mp hb with rfl | hb
        · exact Nat.lt_succ_of_lt hlt
        · exact Nat.lt_succ_of_lt (Nat.lt_trans (List.mem_range.mp hb) hlt)
    · intro b hb
      have hz : s.heap.objs.size - 1 < s.heap.objs.size := Nat.sub_lt hp0 (by decide)
      rcases List.mem_cons.mp hb with rfl | hb
      · exact Nat.lt_trans hz hs4
      · have : b = s.heap.objs.size := by simpa using hb
        rw [this]; exact hz
end
end
section
noncomputable abbrev accLen (l : List (Str × Str)) : Nat := (l.map fun p => p.1.length + p.2.length).sum
theorem mem_len {l : List (Str × Str)} : ∀ {i : Nat} {p : Str × Str}, l[i]? = some p → p.1.length + p.2.length ≤ accLen l := by
  induction l with
  | nil => intro i p h; simp at h
  | cons q r ih =>
    intro i p h
    cases i with
    | zero => simp at h; subst h; simp [accLen]
    | succ i =>
      have := ih (by simpa using h)
      simp only [accLen, List.map_cons, List.sum_cons] at this ⊢
      omega
section
variable {c : Cx} {loc : Loc} {H H' : Own} {T : Tmp} {s : Shared} {N es : Led} {m : Str → Option Value} {a g : Addr} {ini : Int} {l : List (Str × Str)} {k n K : Nat} {F : Nat → Value → Prop} {w : World}
theorem walk_shift {A : Around} {I : Addr} {fp wr : List Addr} {G : Array GenState → Array GenState → Prop} {P : Nat → Value → Prop} {St : Nat → Shared → Prop} (W : WalksS pg w A I fp wr G n P St) :
    WalksS pg w A I fp wr G (n + 1) (fun j v => match j with | 0 => False | j + 1 => P j v) (fun j s => match j with | 0 => False | j + 1 => St j s) where
  sub := W.sub
  grefl := W.grefl
  gtrans := W.gtrans
  frame := fun i s h' tk st => by
    cases i with
    | zero => exact st.elim
    | succ i => exact W.frame i s h' tk st
  item := fun i s Q E hi st hQ => by
    cases i with
    | zero => exact st.elim
    | succ i => exact W.item i s Q E (by omega) st fun v s' hP st' hm => hQ v s' hP st' hm
  done := W.done
  self := fun i s Q E st => by
    cases i with
    | zero => exact st.elim
    | succ i => exact W.self i s Q E st
theorem sum2_gen {A : Around} {t : Tok} {E : Value → Shared → Prop} {Q : Value → Shared → Prop} (Gs : AllBare s.gens) (X : Gen pg w A K g n F s) (val : Nat → Int) (hval : ∀ j v, F j v → ∃ t, v = .int (val j) t)
    (hini : InLong ini) (hfit : ∀ j, j < n → InLong (val j) ∧ InLong (ini + preSum val (j + 1)))
    (hQ : ∀ s' t', AllBare s'.gens → s'.os = s.os → (∀ b o, b ≤ K → s.heap.get? b = some o → s'.heap.get? b = some o) → Q (.int (ini + preSum val n) t') s') : wpAny (model pg w) A (call (.builtin "sum") [.ref g, .int ini t]) Q E s := by
  obtain ⟨fp, wr, gi, St, W, hst, _, _, hfp, hwr⟩ := X
  have W := W.in4_1
  let val' : Nat → Int := fun j => match j with | 0 => ini | j + 1 => val j
  have hpre : ∀ j, preSum val' (j + 1) = ini + preSum val j := fun j => by
    induction j with
    | zero => simp [preSum, val']
    | succ j ih => rw [preSum, ih]; show ini + preSum val j + val j = ini + (preSum val j + val j); omega
  refine call_function_tree PySem.F.kind_sum PySem.F.plain_sum PySem.F.entry_sum (show argsOk "sum" ⟨[.ref g, .int ini t], []⟩ by unfold argsOk; kernel_rfl) ?_
  unfold Builtin.«sum»
  simp only [List.length_cons, List.length_nil]
  rw [if_neg (by decide)]
  refine wpAny_bind (wpAny_of_eq (show Builtin.Builtins.bindParams "sum" ["start"] 0 ⟨[.int ini t], []⟩ = pure [some (.int ini t)] from rfl) ?_)
  refine wpAny_bind (W.self 0 _ _ _ hst ?_)
  have hf : (decide (-(2 ^ 63) ≤ ini) && decide (ini < 2 ^ 63)) = true := by
    obtain ⟨h1, h2⟩ := hini
    simp only [Bool.and_eq_true, decide_eq_true_eq]
    exact ⟨h1, h2⟩
  dsimp only
  split
  rotate_left
  · rename_i hneg; exact absurd hf hneg
  refine wpAny_bind (wpAny_rule (wpAny_bind (wpAny_mkInt (wpAny_bind (wpAny_pure ?_)))))
  simp only [List.forIn_cons, List.forIn_nil]
  refine wpAny_bind (wpAny_bind (wpAny_bind (wpAny_isInstance (T := "int") (b := false) (typeIs_int _ _ _) PySem.sub_int_str ?_)))
  simp only [Bool.false_eq_true, if_false]
  refine wpAny_pure (wpAny_bind (wpAny_bind (wpAny_isInstance (T := "int") (b := false) (typeIs_int _ _ _) PySem.sub_int_bytes ?_)))
  simp only [Bool.false_eq_true, if_false]
  refine wpAny_pure (wpAny_bind (wpAny_bind (wpAny_isInstance (T := "int") (b := false) (typeIs_int _ _ _) PySem.sub_int_bytearray ?_)))
  simp only [Bool.false_eq_true, if_false]
  refine wpAny_pure (wpAny_pure ?_)
  refine wpAny_bind (wpAny_newObj_type ?_)
  have hSf : s.heap.objs.size ∉ fp := fun hm => Nat.lt_irrefl _ (hfp _ hm)
  have e0 : (Value.int ini s.toks) = .int (preSum val' 1) s.toks := by rw [hpre 0]; simp [preSum]
  refine wpAny_pure ⟨plainId_quiet PySem.F.plain_sum_loop _, codeAny_sum_loopS (walk_shift W) val' (fun i v hv => ?_) (fun j hj => ?_) s.heap.objs.size hSf n 1 _ s.toks 0 (by omega) (by omega) ?_ ?_ fun s' t' hm => ?_⟩
  · cases i with
    | zero => exact hv.elim
    | succ i => exact hval i v hv
  · cases j with
    | zero => refine ⟨hini, ?_⟩; rw [hpre 0]; simpa [preSum] using hini
    | succ j => rw [hpre (j + 1)]; exact hfit j (by omega)
  · exact W.frame 0 s _ _ hst (by first | exact Nat.le_refl _ | exact Nat.le_succ _ | omega) fun b _ o e => Heap.get?_push_of_some _ e
  · rw [← e0]; exact Heap.get?_push_size _ rfl
  · have hm2 := hm.drop_new (by first | exact Nat.le_refl _ | exact Nat.le_succ _ | omega)
    rw [hpre n]
    exact hQ s' t' (Gs.movedS hm2) hm2.os fun b o hb e => hm2.heap b o (fun hmem => Nat.lt_irrefl _ (Nat.lt_of_lt_of_le (hwr b hmem) hb)) e
end
end
section
section
variable {c : Cx} {env : Env} {loc : Loc} {H H' : Own} {P : AV → Own → Prop} {T : Tmp} {s : Shared} {N es : Led} {m : Str → Option Value} {a g : Addr} {ini : Int} {l : List (Str × Str)} {k n K : Nat} {F : Nat → Value → Prop} {w : World} {pos : Pos}
theorem acc_getini_raw (G : c.Good k) (R : RepW c loc H T s N es m) (hm : (a, AO.acc ini l) ∈ H) {A : Around} {E : Value → Shared → Prop} {Q : Value → Shared → Prop} {expr : Bool} (h : ∀ t, Q (.int ini t) { s with toks := s.toks + 1 }) :
    wpAny (model pg c.w) A (getAttr (.ref a) INI expr) Q E s := by
  obtain ⟨dx, vs, n, mm, hh, t, t', Z⟩ := R.accAt hm
  have X := R.KI G
  have L0 := Z.I.type (M := model pg c.w)
  have hf : findObj (KF c.w) CAcc (some (dictOf [⟨hh, .str (Str.ofString "_initial_size") t, .int ini t'⟩] mm)) (Str.ofString "_initial_size") = some (.value (.int ini t')) :=
    findObj_own (attr := none) (by kernel_rfl) (by kernel_rfl) rfl getL_ini
  unfold getAttr getAttrBy
  refine wpAny_bind (wpAny_mkText (wpAny_holding (wpAny_bind (looksOn L0 (fun _ _ e => e) (wpAny_bind (looksOn (looks_findIn X (r := some (.builtin "list.__getattribute__")) (by kernel_rfl)) (fun _ _ e => e) ?_))))))
  show wpAny _ _ (getAttrByItsOwn (.ref a) (.str (Str.ofString "_initial_size") s.toks) (.ref CAcc) (.builtin "list.__getattribute__") true expr) _ _ _
  unfold getAttrByItsOwn hookBefore
  refine wpAny_bind (looksOn (looks_findIn X (r := none) (by kernel_rfl)) (fun _ _ e => e) ?_)
  refine wpAny_bind (wpAny_attempt (wpAny_holding ?_))
  have e1 : callGetattribute (.ref a) (.str (Str.ofString "_initial_size") s.toks) (.builtin "list.__getattribute__") expr = boundAndCalled (.builtin "list.__getattribute__") (.ref a) (.str (Str.ofString "_initial_size") s.toks) := by
    unfold callGetattribute; simp [onTheHeap]
  rw [e1]
  unfold boundAndCalled
  refine wpAny_bind (wpAny_of_eq (a := (.builtin "list.__getattribute__", [.ref a])) (by kernel_rfl) ?_)
  have I' : W.InstAt ({ s with toks := s.toks + 1 } : Shared).heap a (accO CAcc dx vs n) CAcc (some (dictOf [⟨hh, .str (Str.ofString "_initial_size") t, .int ini t'⟩] mm)) := Z.I
  have key : wpAny (model pg c.w) A (call (.builtin "list.__getattribute__") ([.ref a] ++ [.str (Str.ofString "_initial_size") s.toks])) (fun v s' => v = .int ini t' ∧ s' = { s with toks := s.toks + 1 }) (fun _ _ => False) { s with toks := s.toks + 1 } := by
    refine below_call (s := { s with toks := s.toks + 1 }) S_ga X I' (by kernel_rfl) ?_
    unfold Builtin.«object.__getattribute__»
    refine wpAny_bind (wpAny_pure (wpAny_bind (wpAny_pure (wpAny_bind (looksOn L0 (fun _ _ e => e) (wpAny_bind (looksOn (looks_find X Z.I hf) (fun _ _ e => e) ?_)))))))
    exact wpAny_pure ⟨_, rfl, rfl, rfl⟩
  refine wpAny_mono key (fun v s' ⟨e1, e2⟩ => ?_) fun _ _ e => e.elim
  subst e1 e2
  exact wpAny_pure (h t')
theorem AE_callb_raw {fe e : Expr} {es : List Expr} (id : String) (h : AE c env fe loc H fun v H1 => v = .val (.builtin id) ∧ ∀ T s, Rep c loc H1 T s → wpAny (model pg c.w) c.A (spliced (backTo pos (starEach (e :: es) env))) (fun vs' s2 => W c T (call (.builtin id) vs') loc P s2) (fun _ _ => False) s)
    (h1 : eval (.Call fe (e :: es) [] pos) env = (do callWith pos (← eval fe env) [] (backTo pos (starEach (e :: es) env)) (backToKw pos (keywordEach [] env))) := by first | rfl | with_unfolding_all rfl)
    (h2 : starEach (e :: es) env = (false, eval e env) :: starEach es env := by first | rfl | with_unfolding_all rfl) (h3 : ((backTo pos (starEach es env)).any (·.1)) = false := by first | rfl | with_unfolding_all rfl) : AE c env (.Call fe (e :: es) [] pos) loc H P := fun T s R =>
  Call_ (thenW (h T s R) fun v' s1 v H1 R1 ⟨hv, hh⟩ => by
    subst hv
    rw [R1.isVal (.head _)]
    exact PyProof.Rows.callWith_builtin1 (wpAny_mono (hh _ _ R1) (fun vs' s2 hc => hc.sub fun p hp => .tail _ hp) fun _ _ e => e) h2 h3) h1
theorem preSum_len (l : List (Str × Str)) : ∀ n, n ≤ l.length → preSum (fun j => ((l[j]?.map fun p => p.1.length + p.2.length).getD 0 : Nat)) n = ((l.take n).map fun p => p.1.length + p.2.length).sum := by
  intro n hn
  induction n with
  | zero => simp [preSum]
  | succ n ih =>
    rw [preSum, ih (by omega)]
    have : l[n]? = some l[n] := List.getElem?_eq_getElem (by omega)
    rw [List.take_add_one, this]
    simp only [Option.toList_some, List.map_append, List.map_cons, List.map_nil, List.sum_append, List.sum_cons, List.sum_nil, Option.map_some, Option.getD_some]
    omega
end
noncomputable abbrev genLenScope : Scope := { kind := .function, names := [(Str.ofString ".0", .local), (Str.ofString "fws", .local), (Str.ofString "part", .local), (Str.ofString "len", .globalImplicit)], isGenerator := true, isCoroutine := false, more := [] }
set_option maxHeartbeats 2000000 in
theorem len_spec {k : Nat} {H : Own} {P : AV → Own → Prop} {a : Addr} {ini : Int} {l : List (Str × Str)} (hm : (a, AO.acc ini l) ∈ H) (ht : (140, AO.table 93 19) ∈ H) (hi : 0 ≤ ini) (hi2 : ini < 2 ^ 40) (hl : accLen l < 2 ^ 40) (h : P (.int (ini + accLen l)) H) :
    AF (k + 1) (.ref 145) [.ref a] H P := by
  refine AF_def (ds := []) ["self"] [] [("self", some (.ref a))] (fun w => by rfl) (fun w => by rfl) rfl (by decide) ?_ (by decide +kernel) ?_ (by decide)
  · intro w s args' hl hk
    obtain ⟨x, rfl⟩ := ln1 hl
    exact ⟨[], BindsTo.of_eq rfl, fun _ _ => .nil⟩
  · intro w os base outer A₀ A h₀ L X Y c G
    refine ASs_cons (AS_return (AE_callb_raw "sum" ?_))
    with_reducible refine AE_builtin (by assumption) (fun _ => by with_unfolding_all rfl) (by with_unfolding_all rfl) (by decide) (by with_unfolding_all rfl) ?_
    refine ⟨rfl, fun T s R => ?_⟩
    obtain ⟨N, es, m, R⟩ := R
    have hp0 : 0 < s.heap.objs.size := by
      obtain ⟨dx, vs, n, mm, hh, t1, t2, Z⟩ := R.accAt hm
      exact Nat.lt_of_le_of_lt (Nat.zero_le _) (Heap.lt_size Z.I.at_)
    refine spliced_more (gen_acc (k := k) (l := l) (a := a) (F := fun j v => ∃ t, v = .int (((l[j]?.map fun p => p.1.length + p.2.length).getD 0 : Nat) : Int) t) G R hm (.head _) hp0 ht rfl (tab_len w) rfl (closureFor_none (by decide)) (by decide) (by rfl) (by rfl) (by rfl) (by decide) rfl ?_ ?_)
    · intro A' E' i p t1 t2 s₂ m₂ code C mg mb hA hp hn ha hb top hg hbn
      have hpl := mem_len hp
      have lenAt : ∀ (x : Str) (t : Tok) (y : String) (p1 p2 p3 : Pos) (tk : Nat) (Q : Value → Shared → Prop), m₂ (Str.ofString y) = some (.str x t) → (genEnv genLenScope [] C code builtinsNs c.env).kindOf (Str.ofString y) = some .local → (Str.ofString y == ("__debug__" : Str)) = false → x.length < 2 ^ 60 →
          (∀ t' tk', Q (.int x.length t') { s₂ with toks := tk' }) → wpAny (model pg w) A' (eval (.Call (.Name "len" p1) [.Name (Str.ofString y) p2] [] p3) (genEnv genLenScope [] C code builtinsNs c.env)) Q E' { s₂ with toks := tk } := by
        intro x t y p1 p2 p3 tk Q hy hky hd hx hQ
        refine Call_ ?_ (by with_unfolding_all rfl)
        refine Name_function_global (by rfl) (by rfl) (loadGlobal_builtin (env := genEnv genLenScope [] C code builtinsNs c.env) hg (mg_none_of G.K top.g (by kernel_rfl)) hbn ((top.builtins _ (by decide)).trans (by first | rfl | kernel_rfl)) ?_) (by decide)
        refine PyProof.Rows.callWith_builtin1 (spliced_more (wpAny_Name (wpAny_loadName_local (by rfl) hky hn hy (spliced_none ?_)) hd) (by with_unfolding_all rfl)) (by with_unfolding_all rfl) (by rfl)
        exact PyProof.Rows.len_str (by omega) (hQ _ _)
      refine wpAny_BinOp (lenAt p.1 t1 "fws" _ _ _ s₂.toks _ ha (by rfl) (by decide) (by omega) fun t' tk' => lenAt p.2 t2 "part" _ _ _ tk' _ hb (by rfl) (by decide) (by omega) fun t'' tk'' => add_int ⟨⟨tk'', ?_⟩, _, _, rfl, fun b o e => e⟩)
      rw [hp]
      simp
    · intro g s5 R5f R5 R5g k5 X5
      obtain ⟨N5, es5, m5, R5⟩ := R5
      refine spliced_more (Attribute_any_ ?_)
      obtain ⟨q1, q2⟩ := Bool.and_eq_true_iff.mp (R5.loc.kd "self" (by simp))
      obtain ⟨sv, hsv, hsvr⟩ := R5.loc.is "self" (.ref a) (by simp)
      cases hsvr
      refine nameX_L (cl := c.cells) R5.F hsv ?_ G.kind (of_decide_eq_true q1) (by simpa using q2)
      refine acc_getini_raw G R5 hm fun t => spliced_none ?_
      have R6 := R5.tok (tk := s5.toks + 1)
      have X6 : Gen pg c.w c.A (s.heap.objs.size - 1) g l.length (fun j v => ∃ t, v = .int (((l[j]?.map fun p => p.1.length + p.2.length).getD 0 : Nat) : Int) t) { s5 with toks := s5.toks + 1 } := by
        obtain ⟨fp, wr, gi, St, W, hst, h1, h2, h3, h4⟩ := X5
        exact ⟨fp, wr, gi, St, W, W.frame 0 s5 _ _ hst (Nat.le_succ _) fun b _ o e => e, h1, h2, h3, h4⟩
      have hb : ∀ j, ((l.take j).map fun p => p.1.length + p.2.length).sum ≤ accLen l := fun j => by
        have := List.take_append_drop j l
        have e : accLen l = ((l.take j).map fun p => p.1.length + p.2.length).sum + ((l.drop j).map fun p => p.1.length + p.2.length).sum := by
          rw [← List.sum_append, ← List.map_append, this]
        omega
      refine sum2_gen (s := { s5 with toks := s5.toks + 1 }) R5.gens X6 _ (fun j v hv => hv) ⟨by omega, by omega⟩ (fun j hj => ?_) fun s' t' hg hos hk => ?_
      · rw [preSum_len l (j + 1) (by omega)]
        have h1 := hb (j + 1)
        have h2 := mem_len (List.getElem?_eq_getElem hj)
        have h3 : l[j]? = some l[j] := List.getElem?_eq_getElem hj
        rw [h3]
        simp only [Option.map_some, Option.getD_some]
        exact ⟨⟨by omega, by omega⟩, by omega, by omega⟩
      · rw [preSum_len l l.length (Nat.le_refl _), List.take_length]
        have Rf := R5f s' (fun b o hb e => hk b o (by omega) e) hg hos
        exact ⟨_, H, Rf.int _ _, h⟩
end
section
theorem tjoin (sep : Str) (ys : List Str) : Txt.join sep ys = Str.join sep ys := by unfold Txt.join; rw [StrLaws.glued_eq_join]
noncomputable abbrev pairStr (p : Str × Str) : Str := Str.join ("" : Str) [p.1, p.2]
noncomputable abbrev accStr (l : List (Str × Str)) : Str := Str.join ("" : Str) (l.map pairStr)
noncomputable abbrev genStrScope : Scope := { kind := .function, names := [(Str.ofString ".0", .local), (Str.ofString "fws", .local), (Str.ofString "part", .local), (Str.ofString "EMPTYSTRING", .globalImplicit)], isGenerator := true, isCoroutine := false, more := [] }
theorem len_app (x y : Str) : (x ++ y).length = x.length + y.length := Array.size_append ..
theorem pairStr_len (p : Str × Str) : (pairStr p).length = p.1.length + p.2.length := by
  show (p.1 ++ ("" : Str) ++ p.2).length = _
  rw [len_app, len_app]
  rfl
theorem empty_len : Str.length ("" : Str) = 0 := by rfl
theorem range_pairs (l : List (Str × Str)) : (List.range l.length).map (fun j => (l[j]?.map pairStr).getD "") = l.map pairStr := by
  apply List.ext_getElem?
  intro j
  by_cases hj : j < l.length
  · simp [hj]
  · simp [hj]
theorem pairs_sum (l : List (Str × Str)) : ((l.map pairStr).map (·.length)).sum = accLen l := by
  induction l with
  | nil => rfl
  | cons p r ih =>
    simp only [List.map_cons, List.sum_cons, accLen, pairStr_len]
    rw [ih]
section
variable {c : Cx} {env : Env} {loc : Loc} {H H' : Own} {P : AV → Own → Prop} {T : Tmp} {s : Shared} {pos : Pos}
theorem AE_methb_raw {o e : Expr} {es : List Expr} {name : Str} {apos : Pos} (id : String) {pl : Sem Bool} (h : AE c env o loc H fun v H1 => OpMeth c v name (.builtin id) loc H1 ∧ ∀ T s v', Rep c loc H1 T s → (v, v') ∈ T → wpAny (model pg c.w) c.A (spliced (backTo pos (starEach (e :: es) env))) (fun vs' s2 => W c T (call (.builtin id) (v' :: vs')) loc P s2) (fun _ _ => False) s)
    (h1 : eval (.Call (.Attribute o name apos) (e :: es) [] pos) env = (do let ov ← eval o env; standAt apos.atName; let (f, first) ← holding [ov] (getMethod ov name pl); callWith pos f first (backTo pos (starEach (e :: es) env)) []) := by first | rfl | with_unfolding_all rfl)
    (h2 : starEach (e :: es) env = (false, eval e env) :: starEach es env := by first | rfl | with_unfolding_all rfl) (h3 : ((backTo pos (starEach es env)).any (·.1)) = false := by first | rfl | with_unfolding_all rfl) : AE c env (.Call (.Attribute o name apos) (e :: es) [] pos) loc H P := fun T s R =>
  MethodCall_ (thenW (h T s R) fun v' s1 v H1 R1 ⟨hm, hh⟩ => hm _ _ v' _ R1 (.head _) _ _ fun tk =>
    PyProof.Rows.callWith_method1 (wpAny_mono (hh _ _ v' R1.tok (.head _)) (fun vs' s2 hc => hc.sub fun p hp => .tail _ hp) fun _ _ e => e) h2 h3) h1
theorem OpMeth_str {x : Str} {name : Str} {f : Value} (h : ∀ t {M : Model} {A : Around} {E : Value → Shared → Prop} {s : Shared} {pl : Sem Bool} {Q : Value × List Value → Shared → Prop}, Q (f, [.str x t]) s → wpAny M A (getMethod (.str x t) name pl) Q E s) : OpMeth c (.str x) name f loc H := fun T s v' pl R m Q E hQ => by
  obtain ⟨t, rfl⟩ := R.isStr m
  exact h t (hQ s.toks)
end
set_option maxHeartbeats 2000000 in
theorem str_spec {k : Nat} {H : Own} {P : AV → Own → Prop} {a : Addr} {ini : Int} {l : List (Str × Str)} (hm : (a, AO.acc ini l) ∈ H) (ht : (147, AO.table 96 32) ∈ H) (hl : accLen l + l.length ≤ 1000000) (h : P (.str (accStr l)) H) :
    AF (k + 1) (.ref 152) [.ref a] H P := by
  refine AF_def (ds := []) ["self"] [] [("self", some (.ref a))] (fun w => by rfl) (fun w => by rfl) rfl (by decide) ?_ (by decide +kernel) ?_ (by decide)
  · intro w s args' hl hk
    obtain ⟨x, rfl⟩ := ln1 hl
    exact ⟨[], BindsTo.of_eq rfl, fun _ _ => .nil⟩
  · intro w os base outer A₀ A h₀ L X Y c G
    refine ASs_cons (AS_return (AE_methb_raw "str.join" ?_))
    refine AE_global (av := .str "") G (fun w => by rfl) (by rfl) (fun B N => .str _ _) ?_
    refine ⟨OpMeth_str fun t => GM.join, fun T s v' R hv' => ?_⟩
    obtain ⟨tk0, rfl⟩ := R.isStr hv'
    obtain ⟨N, es, m, R⟩ := R
    have hp0 : 0 < s.heap.objs.size := by
      obtain ⟨dx, vs, n, mm, hh, t1, t2, Z⟩ := R.accAt hm
      exact Nat.lt_of_le_of_lt (Nat.zero_le _) (Heap.lt_size Z.I.at_)
    refine spliced_more (gen_acc (k := k) (l := l) (a := a) (F := fun j v => ∃ t, v = .str ((l[j]?.map pairStr).getD "") t) G R hm (.head _) hp0 ht rfl (tab_str w) rfl (closureFor_none (by decide)) (by decide) (by rfl) (by rfl) (by rfl) (by decide) rfl ?_ ?_)
    · intro A' E' i p t1 t2 s₂ m₂ code C mg mb hA hp hn ha hb top hg hbn
      have hpl := mem_len hp
      refine MethodCall_ ?_ (by with_unfolding_all rfl)
      refine Name_function_global (by rfl) (by rfl) (loadGlobal_global (env := genEnv genStrScope [] C code builtinsNs c.env) hg (mg_of G.K top.g (by rfl)) ?_) (by decide)
      refine GM.join ?_
      refine PyProof.Rows.callWith_method1 (spliced_more (Tuple_ (spliced_more (wpAny_Name (wpAny_loadName_local (env := genEnv genStrScope [] C code builtinsNs c.env) (name := "fws") (by rfl) (by rfl) hn ha (spliced_more (wpAny_Name (wpAny_loadName_local (env := genEnv genStrScope [] C code builtinsNs c.env) (name := "part") (by rfl) (by rfl) hn hb (spliced_none ?_)) (by decide)) (by with_unfolding_all rfl))) (by decide)) (by with_unfolding_all rfl))) (by with_unfolding_all rfl)) (by with_unfolding_all rfl) (by rfl)
      unfold newTuple
      refine wpAny_newObj_type (spliced_none ?_) (by size_fits)
      have ht : IsTup (s₂.heap.push (tupO [.str p.1 t1, .str p.2 t2])) s₂.heap.objs.size #[.str p.1 t1, .str p.2 t2] := ⟨_, Heap.get?_push_size _ rfl, rfl, 0, rfl⟩
      refine join_tuple (ys := [p.1, p.2]) ht (.cons _ _ (.cons _ _ .nil)) (by simp only [empty_len, List.map_cons, List.map_nil, List.sum_cons, List.sum_nil]; omega) fun t' k' => ⟨⟨t', ?_⟩, _, _, rfl, fun b o e => Heap.get?_push_of_some _ e⟩
      rw [hp, tjoin]
      rfl
    · intro g s5 R5f R5 R5g k5 X5
      obtain ⟨N5, es5, m5, R5⟩ := R5
      refine spliced_none ?_
      refine join_rowsK R5.F R5g X5 (by have := R.F.ns.lt; exact Nat.le_sub_one_of_lt this) (fun j => (l[j]?.map pairStr).getD "") (fun j v hv => hv) ?_ (fun s' t' _ hg hos hk => ?_) (by have : sizeLine = 2 ^ 24 := rfl; omega)
      · rw [range_pairs]
        refine joinOk_of ?_
        rw [pairs_sum, empty_len]
        omega
      · have Rf := R5f s' (fun b o hb e => hk b o (Nat.le_sub_one_of_lt hb) e) hg hos
        rw [tjoin, range_pairs]
        exact ⟨_, H, Rf.str _ _, h⟩
end
section
section
variable {c : Cx} {env : Env} {loc : Loc} {H H' : Own} {P : AV → Own → Prop} {T : Tmp} {s : Shared} {pos : Pos} {v1 : AV} {a : Addr} {ini : Int} {l : List (Str × Str)} {k : Nat}
theorem AF.at {f : Value} {args : List AV} {A : Around} {args' : List Value} (h : AF k f args H P) (G : c.Good 0) (hA : A.frames = some (c.env :: c.outer)) (hR : Room A k) (R : Rep c loc H T s) (hI : ArgsIn T args args') :
    wpAny (model pg c.w) A (call f args') (WOut c loc T P) EF s :=
  wpAny_call (codeAny_mono (h c A loc T s args' G hA hR R hI) fun r s' hr => by
    unfold RP at hr
    split at hr
    · exact hr
    · exact hr.elim)
theorem Room.in1 {A : Around} (R : Room A (k + 1)) : Room A.in1 k := ⟨by have := R.depth; show A.depth + 10 * k < 900; omega, by have := R.units; show A.units + 1 + 40 * k < 9000; omega, R.handled⟩
theorem Room.in2 {A : Around} (R : Room A (k + 1)) : Room A.in1.in1 k := ⟨by have := R.depth; show A.depth + 10 * k < 900; omega, by have := R.units; show A.units + 1 + 1 + 40 * k < 9000; omega, R.handled⟩
theorem OpCall_len_acc (G : c.Good (k + 2)) (hm : (a, AO.acc ini l) ∈ H) (ht : (140, AO.table 93 19) ∈ H) (hi : 0 ≤ ini) (hi2 : ini < 2 ^ 40) (hl : accLen l < 2 ^ 40) (h : P (.int (ini + accLen l)) H) : OpCall c (.builtin "len") [.ref a] loc H P := fun T s vs' R hA => by
  obtain ⟨_, rfl, m1⟩ := hA.one
  · obtain rfl := R.isRef m1
    have R' := R
    obtain ⟨N, es, m, R⟩ := R
    obtain ⟨dx, vs, n, mm, hh, t1, t2, Z⟩ := R.accAt hm
    refine W.len_K R.F G.K Z.I (f := 145) (by kernel_rfl) (by kernel_rfl) ?_
    refine thenWA ((len_spec (k := k) (P := fun v H1 => v = .int (ini + accLen l) ∧ H1 = H) hm ht hi hi2 hl ⟨rfl, rfl⟩).at (G.le (Nat.zero_le _)) (by exact G.frames) G.room.in1 R' (.cons m1 .nil)) fun v' s' v H1 R1 ⟨e1, e2⟩ => ?_
    subst e1 e2
    obtain ⟨t, rfl⟩ := R1.isInt (.head _)
    refine ⟨⟨by omega, by omega⟩, _, _, (R1.sub fun p hp => .tail _ hp).tok.int _ _, h⟩
theorem OpT_acc {P : Bool → Own → Prop} (G : c.Good (k + 2)) (hm : (a, AO.acc ini l) ∈ H) (ht : (140, AO.table 93 19) ∈ H) (hi : 0 ≤ ini) (hi2 : ini < 2 ^ 40) (hl : accLen l < 2 ^ 40) (h : P (decide (ini + accLen l ≠ 0)) H) : OpT c (.ref a) loc H P := fun T s v1' R m1 => by
  obtain rfl := R.isRef m1
  have R' := R
  obtain ⟨N, es, m, R⟩ := R
  obtain ⟨dx, vs, n, mm, hh, t1, t2, Z⟩ := R.accAt hm
  have X := R.KI G
  unfold truthy
  refine wpAny_bind (m := callSpecial? (.ref a) (Str.ofString "__bool__")) (wpAny_bind (wpAny_bind (Z.I.type.here ((looks_findIn X (r := none) (by kernel_rfl)).here (wpAny_pure ?_)))))
  refine wpAny_bind (wpAny_bind (Z.I.type.here ((looks_findIn X (r := some (.ref 145)) (by kernel_rfl)).here ?_)))
  rw [if_neg (by simp)]
  refine wpAny_bind (wpAny_runValue (codeAny_builtin entry_len ?_))
  rw [Around.under_plainId plain_len _]
  unfold Builtin.«len»
  refine wpAny_bind (m := oneArg "len" _) (wpAny_pure ?_)
  refine wpAny_bind (m := callSpecial? (.ref a) (Str.ofString "__len__")) (special_fn (f := 145) X Z.I (by kernel_rfl) (by kernel_rfl) (thenWA ((len_spec (k := k) (P := fun v H1 => v = .int (ini + accLen l) ∧ H1 = H) hm ht hi hi2 hl ⟨rfl, rfl⟩).at (G.le (Nat.zero_le _)) (by exact G.frames) G.room.in1 R' (.cons m1 .nil)) fun v' s' v H1 R1 ⟨e1, e2⟩ => ?_))
  subst e1 e2
  obtain ⟨t, rfl⟩ := R1.isInt (.head _)
  refine wpAny_bind (wpAny_holding (wpAny_pure ?_))
  refine wpAny_bind (wpAny_letGo ?_)
  show wpAny _ _ (if ini + accLen l < 0 then _ else _) _ _ _
  rw [if_neg (by omega)]
  show wpAny _ _ (if ini + accLen l ≥ 2 ^ 63 then _ else _) _ _ _
  rw [if_neg (by omega)]
  refine wpAny_bind (wpAny_mkInt (wpAny_pure ?_))
  refine wpAny_pure ⟨_, (R1.sub fun p hp => .tail _ hp).tok, ?_⟩
  have e : ((ini + accLen l : Int) != 0) = decide (ini + accLen l ≠ 0) := by simp [bne, bd]
  rw [e]; exact h
theorem OpCall_str_acc (G : c.Good (k + 2)) (hm : (a, AO.acc ini l) ∈ H) (ht : (147, AO.table 96 32) ∈ H) (hl : accLen l + l.length ≤ 1000000) (h : P (.str (accStr l)) H) : OpCall c (.type "str") [.ref a] loc H P := fun T s vs' R hA => by
  obtain ⟨_, rfl, m1⟩ := hA.one
  · obtain rfl := R.isRef m1
    have R' := R
    obtain ⟨N, es, m, R⟩ := R
    obtain ⟨dx, vs, n, mm, hh, t1, t2, Z⟩ := R.accAt hm
    refine kso_call (by have := G.room.units; show c.A.units + 1 + 1 < 9900; omega) (R.KI G) Z.I (f := 152) (by kernel_rfl) (by kernel_rfl) ?_
    refine thenWA ((str_spec (k := k) (P := fun v H1 => v = .str (accStr l) ∧ H1 = H) hm ht hl ⟨rfl, rfl⟩).at (G.le (Nat.zero_le _)) (by exact G.frames) G.room.in2 R' (.cons m1 .nil)) fun v' s' v H1 R1 ⟨e1, e2⟩ => ?_
    subst e1 e2
    obtain ⟨t, rfl⟩ := R1.isStr (.head _)
    exact ⟨_, _, R1, h⟩
theorem AE_and {e1 e2 : Expr} {rest : List Expr} (h : AE c env e1 loc H fun v H1 => OpT c v loc H1 fun b H2 => (b = true → AE c env (.BoolOp .And (e2 :: rest) pos) loc H2 P) ∧ (b = false → P v H2)) : AE c env (.BoolOp .And (e1 :: e2 :: rest) pos) loc H P := fun T s R =>
  BoolOp_and (thenW (h T s R) fun v' s1 v H1 R1 h1 => thenB (h1 _ _ _ R1 (.head _)) fun b s2 H2 R2 ⟨ht, hf⟩ => by
    cases b with
    | true => rw [if_pos rfl]; exact (ht rfl _ _ R2 : W _ _ _ _ _ _).sub fun p hp => .tail _ hp
    | false => rw [if_neg Bool.false_ne_true]; exact ⟨v, H2, R2, hf rfl⟩)
theorem AE_or {e1 e2 : Expr} {rest : List Expr} (h : AE c env e1 loc H fun v H1 => OpT c v loc H1 fun b H2 => (b = false → AE c env (.BoolOp .Or (e2 :: rest) pos) loc H2 P) ∧ (b = true → P v H2)) : AE c env (.BoolOp .Or (e1 :: e2 :: rest) pos) loc H P := fun T s R =>
  BoolOp_or (thenW (h T s R) fun v' s1 v H1 R1 h1 => thenB (h1 _ _ _ R1 (.head _)) fun b s2 H2 R2 ⟨hf, ht⟩ => by
    cases b with
    | false => rw [if_neg Bool.false_ne_true]; exact (hf rfl _ _ R2 : W _ _ _ _ _ _).sub fun p hp => .tail _ hp
    | true => rw [if_pos rfl]; exact ⟨v, H2, R2, ht rfl⟩)
theorem OpU_not (h : OpT c v1 loc H fun b H1 => P (.bool (!b)) H1) : OpU c .Not v1 loc H P := fun T s v' R m =>
  not_of (thenB (h T s v' R m) fun b s' H1 R1 p => ⟨_, H1, R1.bool _, p⟩)
theorem AE_accini {e : Expr} (G : c.Good k) (h : AE c env e loc H fun v H1 => ∃ a ini l, v = .ref a ∧ (a, AO.acc ini l) ∈ H1 ∧ P (.int ini) H1)
    (he : eval (.Attribute e INI pos) env = (do
      let o ← eval e env
      standAt pos.atName
      let r ← holding [o] (getAttr o INI true)
      letTemporaryGo e o r
      pure r) := by first | rfl | with_unfolding_all rfl) : AE c env (.Attribute e INI pos) loc H P := fun T s R =>
  Attribute_any_ (thenW (h T s R) fun v' s1 v H1 R1 ⟨a, ini, l, hv, hm, hp⟩ => by
    subst hv
    obtain rfl := R1.isRef (.head _)
    obtain ⟨N, es, m, R1⟩ := R1
    exact acc_getini_raw G R1 hm fun t => ⟨_, _, (R1.sub fun p hp => .tail _ hp).tok.rep.int _ _, hp⟩) he
theorem OpCall_isspace {x : Str} (h : P (.bool (Txt.isspace x)) H) : OpCall c (.builtin "str.isspace") [.str x] loc H P := fun T s vs' R hA => by
  obtain ⟨_, rfl, m⟩ := hA.one
  · obtain ⟨t, rfl⟩ := R.isStr m
    exact SC.isspace ⟨_, _, R.bool _, h⟩
theorem AE_bool1 {op : BoolOp} {e : Expr} (h : AE c env e loc H P) : AE c env (.BoolOp op [e] pos) loc H P := fun T s R => BoolOp_one (h T s R)
end
noncomputable def onlyws (ini : Int) (l : List (Str × Str)) : Bool := decide (ini = 0) && (decide (accLen l = 0) || Txt.isspace (accStr l))
theorem onlyws_spec {k : Nat} {H : Own} {P : AV → Own → Prop} {a : Addr} {ini : Int} {l : List (Str × Str)} (hm : (a, AO.acc ini l) ∈ H) (h1 : (140, AO.table 93 19) ∈ H) (h2 : (147, AO.table 96 32) ∈ H) (hi : 0 ≤ ini) (hi2 : ini < 2 ^ 40) (hl : accLen l + l.length ≤ 1000000) (h : P (.bool (onlyws ini l)) H) :
    AF (k + 3) (.ref 167) [.ref a] H P := by
  refine AF_def (ds := []) ["self"] [] [("self", some (.ref a))] (fun w => by rfl) (fun w => by rfl) rfl (by decide) ?_ (by decide +kernel) ?_ (by decide)
  · intro w s args' hl hk
    obtain ⟨x, rfl⟩ := ln1 hl
    exact ⟨[], BindsTo.of_eq rfl, fun _ _ => .nil⟩
  · intro w os base outer A₀ A h₀ L X Y c G
    refine ASs_cons (AS_return (AE_and (AE_compare (AE_accini G ?_))))
    refine AE_local (by assumption) (.head _) ?_
    refine ⟨a, ini, l, rfl, hm, ?_⟩
    refine AE_int ?_
    refine OpC_eq (OpT_bool ⟨fun e => AE_bool1 (AE_or (AE_unary ?_)), fun e => ?_⟩)
    · refine AE_local (by assumption) (.head _) ?_
      refine OpU_not (OpT_acc (k := k) G hm h1 hi hi2 (by omega) (OpT_bool ⟨fun e2 => AE_bool1 (AE_methb0 "str.isspace" (AE_callt "str" ?_)), fun e2 => ?_⟩))
      · with_reducible refine AE_builtin (by assumption) (fun _ => by with_unfolding_all rfl) (by with_unfolding_all rfl) (by decide) (by with_unfolding_all rfl) ?_
        refine ⟨rfl, ?_⟩
        refine AEs_cons ?_; refine AE_local (by assumption) (.head _) ?_; refine AEs_nil ?_
        refine OpCall_str_acc (k := k) G hm h2 hl ⟨OpMeth_str fun t => GM.isspace, OpCall_isspace ?_⟩
        have e' : onlyws ini l = Txt.isspace (accStr l) := by
          simp at e e2
          subst e
          have : accLen l ≠ 0 := by omega
          simp [onlyws, this]
        rw [← e']; exact h
      · have e' : onlyws ini l = true := by
          simp at e e2
          subst e
          have : accLen l = 0 := by omega
          simp [onlyws, this]
        rw [e2, ← e']; exact h
    · have e' : onlyws ini l = false := by simp [onlyws, e]
      rw [e, ← e']; exact h
end
section
noncomputable def AV.handed : AV → Bool
  | .val _ => false
  | _ => true
theorem VR.handed {B : Heap} {N : Led} {v : AV} {v' : Value} (h : VR B N v v') (hv : v.handed = true) : handedIn v' = true := by
  cases h <;> first | rfl | cases hv
noncomputable def fput (x : String) (v : AV) : List (String × AV) → List (String × AV)
  | [] => [(x, v)]
  | (y, u) :: r => if y = x then (x, v) :: r else (y, u) :: fput x v r
noncomputable def fget (x : String) : List (String × AV) → Option AV
  | [] => none
  | (y, u) :: r => if y = x then some u else fget x r
section
variable {B : Heap} {N : Led}
theorem isStr_key {x y : String} {t : Tok} : (Value.str (Str.ofString y) t).isStr (Str.ofString x) = decide (y = x) := by
  show (Str.ofString y == Str.ofString x) = _
  rw [Bool.eq_iff_iff, beq_iff_eq, decide_eq_true_eq]
  exact ⟨ofString_inj, fun e => by rw [e]⟩
theorem FR.find {fs : List (String × AV)} {des : List DictEntry} (h : FR B N fs des) (x : String) : (∀ v, fget x fs = some v → ∃ v', getL (Str.ofString x) des = some (some v') ∧ VR B N v v') ∧ (fget x fs = none → getL (Str.ofString x) des = some none) := by
  induction h with
  | nil => exact ⟨fun v e => (nomatch e), fun _ => rfl⟩
  | @cons y u hh t u' r es hv hr ih =>
    by_cases e : y = x
    · subst e
      refine ⟨fun v e => ?_, fun e => by simp [fget] at e⟩
      have e1 : (Value.str (Str.ofString y) t).isStr (Str.ofString y) = true := by rw [isStr_key]; simp
      simp [fget] at e
      subst e
      exact ⟨u', by simp [getL, e1], hv⟩
    · have e1 : (Value.str (Str.ofString y) t).isStr (Str.ofString x) = false := by rw [isStr_key]; simp [e]
      have e2 : getL (Str.ofString x) (⟨hh, .str (Str.ofString y) t, u'⟩ :: es) = getL (Str.ofString x) es := by
        simp only [getL, List.find?_cons, e1, List.any_cons]
        rfl
      rw [e2]
      simp only [fget, if_neg e]
      exact ih
theorem FR.put {fs : List (String × AV)} {des : List DictEntry} (h : FR B N fs des) {x : String} {hh : Int} {t : Tok} {v : AV} {v' : Value} (hv : VR B N v v') : FR B N (fput x v fs) (putL (Str.ofString x) hh (.str (Str.ofString x) t) v' des) := by
  induction h with
  | nil => exact .cons hv .nil
  | @cons y u h2 t2 u' r es hu hr ih =>
    by_cases e : y = x
    · subst e
      have e1 : (Value.str (Str.ofString y) t2).isStr (Str.ofString y) = true := by rw [isStr_key]; simp
      simp only [fput, putL, e1, if_true]
      exact .cons hv hr
    · have e1 : (Value.str (Str.ofString y) t2).isStr (Str.ofString x) = false := by rw [isStr_key]; simp [e]
      simp only [fput, putL, e1, if_neg e, Bool.false_eq_true, if_false]
      exact .cons hu ih
theorem FR.length {fs : List (String × AV)} {des : List DictEntry} (h : FR B N fs des) : des.length = fs.length := by
  induction h with
  | nil => rfl
  | cons _ _ ih => simp [ih]
theorem putL_length (name : Str) (hsh : Int) (key v : Value) : ∀ es : List DictEntry, (putL name hsh key v es).length ≤ es.length + 1
  | [] => by simp [putL]
  | e :: r => by
    unfold putL
    split
    · simp
    · have := putL_length name hsh key v r
      simp; omega
end
section
variable {c : Cx} {env : Env} {loc : Loc} {H H' : Own} {P : AV → Own → Prop} {T : Tmp} {s : Shared} {pos : Pos} {a C : Addr} {fs : List (String × AV)} {k : Nat}
theorem OpMeth_inst {name : String} {f : Addr} (G : c.Good k) (hm : (a, AO.inst C fs) ∈ H) (hg : ∀ w, plainGet (KF w) C (Str.ofString name) = true) (hf : ∀ w, findIn (KF w) (.ref C) (Str.ofString name) = some (some (.ref f))) (ht : ∀ w, isFn (KF w) (.ref f) = true) (hl : fget name fs = none) :
    OpMeth c (.ref a) (Str.ofString name) (.ref f) loc H := fun T s v' pl R m1 Q E h => by
  obtain rfl := R.isRef m1
  obtain ⟨N, es, m, R⟩ := R
  obtain ⟨e, ho, he⟩ := R.get hm
  obtain ⟨dx, des, n, rfl, hfr⟩ := ho.inst_inv
  · exact method_inst R.F G.K ⟨(R.nw _ (he _ (.head _))).1, rfl, rfl, (R.nw _ (he _ (.tail _ (.head _)))).1⟩ (hg c.w) (hf c.w) (ht c.w) ((hfr.find name).2 hl) (h s.toks)
inductive AttrOk (name : String) (P : AV → Own → Prop) (v : AV) (H1 : Own) : Prop
  | intro (a C : Addr) (fs : List (String × AV)) (u : AV) (hv : v = .ref a) (hm : (a, AO.inst C fs) ∈ H1) (hu : fget name fs = some u) (hh : u.handed = true) (hg : ∀ w, plainGet (KF w) C (Str.ofString name) = true) (hd : ∀ w, hasDictIn (KF w) C = true)
      (hf : ∀ w, findIn (KF w) (.ref C) (Str.ofString name) = some none) (p : P u H1)
theorem AE_attr {e : Expr} {name : String} (G : c.Good k) (h : AE c env e loc H fun v H1 => AttrOk name P v H1)
    (he : eval (.Attribute e (Str.ofString name) pos) env = (do
      let o ← eval e env
      standAt pos.atName
      let r ← holding [o] (getAttr o (Str.ofString name) true)
      letTemporaryGo e o r
      pure r) := by with_unfolding_all rfl) : AE c env (.Attribute e (Str.ofString name) pos) loc H P := fun T s R =>
  Attribute_any_ (thenW (h T s R) fun v' s1 v H1 R1 hx => by
    obtain ⟨a, C, fs, u, rfl, hm, hu, hh, hg, hd, hf, hp⟩ := hx
    obtain rfl := R1.isRef (.head _)
    obtain ⟨N, es, m, R1⟩ := R1
    obtain ⟨e, ho, he⟩ := R1.get hm
    obtain ⟨dx, des, n, rfl, hfr⟩ := ho.inst_inv
    · obtain ⟨u', h1, h2⟩ := (hfr.find name).1 u hu
      exact get_own R1.F G.K ⟨(R1.nw _ (he _ (.head _))).1, rfl, rfl, (R1.nw _ (he _ (.tail _ (.head _)))).1⟩ (hg c.w) (hd c.w) (hf c.w) rfl h1 (h2.handed hh) ⟨_, _, ((R1.put h2).sub fun p hp => by
        rcases List.mem_cons.mp hp with rfl | hp
        · exact .head _
        · exact .tail _ (.tail _ hp)).tok.rep, hp⟩) he
theorem AS_setfield {e1 e : Expr} {name : String} {p1 : Pos} {P : SP} (G : c.Good k) (h : AE c env e loc H fun v H1 => AE c env e1 loc H1 fun v1 H2 => ∃ a C fs H3, v1 = .ref a ∧ At a (.inst C fs) (.inst C (fput name v fs)) H2 H3 ∧ fs.length ≤ 100 ∧ (∀ w, findIn (KF w) (.ref C) "__setattr__" = some (some (.builtin "object.__setattr__"))) ∧ (∀ w, plainOver (KF w) C = true) ∧
      (∀ w, takerIn (KF w) C (Str.ofString name) = some none) ∧ (∀ w, hasDictIn (KF w) C = true) ∧ P .next loc H3)
    (hs : swapsWith e (some (.Attribute e1 (Str.ofString name) p1)) pos.line env = pure false := by with_unfolding_all rfl) : AS c env (.Assign [.Attribute e1 (Str.ofString name) p1] e pos) loc H P := by
  refine AS_setattr (h.mono fun v H1 h1 => h1.mono fun v1 H2 h2 T s v' v1' R m1 m2 => ?_) hs
  obtain ⟨a, C, fs, H3, rfl, U, hlen, h3, h4, h5, h6, hp⟩ := h2
  obtain rfl := R.isRef m2
  obtain ⟨N, es, m, R⟩ := R
  have X := R.KI G
  have hv := R.tmp _ m1
  obtain ⟨e, ho, kk⟩ := R.upd U
  obtain ⟨e', ho', he'⟩ := R.get (mem_at U)
  obtain ⟨e2, ho2, hg, -⟩ := R.updG U
  obtain ⟨dx, des, n, rfl, hfr⟩ := ho.inst_inv
  · obtain ⟨Pr, Po, e1, q1, q2, fin⟩ := kk [(a, instObj C dx)] dx _ [] rfl
    have nw := R.nw
    have hx : s.heap.get? a = some (instObj C dx) := by
      obtain ⟨Pr', Po', e1', -⟩ := kk [] a _ [(dx, dictOf des n)] rfl
      exact (R.nw (a, instObj C dx) (by rw [e1']; simp)).1
    have hd : s.heap.get? dx = some (dictOf des n) := (R.nw (dx, dictOf des n) (by rw [e1]; simp)).1
    rw [e1] at nw
    have hl1 := hfr.length
    have hgl : (getL (Str.ofString name) des).isSome = true := by
      cases hq : fget name fs with
      | none => rw [(hfr.find name).2 hq]; rfl
      | some u => obtain ⟨u', h1, -⟩ := (hfr.find name).1 u hq; rw [h1]; rfl
    refine W.set_dict (x := a) R.F G.K nw ⟨hx, rfl, rfl, hd⟩ rfl (h3 c.w) (h4 c.w) (h5 c.w) (h6 c.w) hgl rfl (upd_of q1 q2) (by have := putL_length (Str.ofString name) (PyData.keyHash c.w.params (Str.ofString name)) (.str (Str.ofString name) (s.toks + 1)) v' des; omega) fun h' F' N' => ⟨H3, fin _ h' (s.toks + 2) (.inst (hfr.put hv)) F' N', hp⟩
end
end
section
theorem perm3 {α : Type} (a b c d : List α) : (a ++ (b ++ (c ++ d))).Perm (a ++ (c ++ (b ++ d))) := by
  refine List.Perm.append_left a ?_
  rw [← List.append_assoc, ← List.append_assoc]
  exact List.Perm.append_right d List.perm_append_comm
theorem AF.frame {k : Nat} {f : Value} {args : List AV} {H : Own} {P : AV → Own → Prop} (x : Addr × AO) (h : AF k f args H P) : AF k f args (x :: H) (fun v H1 => ∃ H2, H1 = x :: H2 ∧ P v H2) := by
  intro c A loc T s args' G hA hR R hI
  obtain ⟨N, es, m, R⟩ := R
  obtain ⟨F, nw, nd, own, yk, tmp, lc, g, os⟩ := R
  cases own with
  | @cons a o e es1 _ ho r =>
    obtain ⟨e0, rfl, kk⟩ := r.tailX (X' := e ++ c.X)
    have hp := perm3 N e e0 c.X
    have R' : Rep (c.wX (e ++ c.X) N) loc H T s := by
      refine ⟨N, e0 ++ (e ++ c.X), m, F, fun p hp' => nw p (hp.mem_iff.mpr hp'), ?_, kk, fun p hp => hp, tmp, lc, g, os⟩
      exact (hp.map _).nodup_iff.mp nd
    refine codeAny_mono (h (c.wX (e ++ c.X) N) A loc T s args' (G.wX) hA hR R' hI) fun rr s' hr => ?_
    unfold RP at hr ⊢
    split at hr
    · obtain ⟨v, H', R2, hp2⟩ := hr
      obtain ⟨N2, es2, m2, F2, nw2, nd2, own2, yk2, tmp2, lc2, g2, os2⟩ := R2
      obtain ⟨e2, rfl, kk2⟩ := own2.tailX (X' := c.X)
      have hq := perm3 N2 e e2 c.X
      refine ⟨v, (a, o) :: H', ⟨N2, e ++ (e2 ++ c.X), m2, F2, fun p hp' => nw2 p (hq.mem_iff.mp hp'), ?_, .cons (ho.mono (fun _ _ e => e) yk2) kk2, fun p hp => yk2 p (yk p hp), tmp2, lc2, g2, os2⟩, H', rfl, hp2⟩
      exact (hq.map _).nodup_iff.mpr nd2
    · exact hr
mutual
noncomputable def AV.data : AV → PyData
  | .int i => .int i
  | .str x => .str x
  | .tup l => .tuple (AV.datas l)
  | .none => .none
  | .bool _ => .none
  | .lst _ => .none
  | .blst _ => .none
  | .ref _ => .none
  | .val _ => .none
  | .rng _ _ _ => .none
  | .slc _ _ _ => .none
  | .meth _ _ => .none
noncomputable def AV.datas : List AV → List PyData
  | [] => []
  | x :: r => AV.data x :: AV.datas r
end
mutual
noncomputable def AV.dok : AV → Bool
  | .int _ => true
  | .str _ => true
  | .tup l => AV.doks l
  | .none => false
  | .bool _ => false
  | .lst _ => false
  | .blst _ => false
  | .ref _ => false
  | .val _ => false
  | .rng _ _ _ => false
  | .slc _ _ _ => false
  | .meth _ _ => false
noncomputable def AV.doks : List AV → Bool
  | [] => true
  | x :: r => AV.dok x && AV.doks r
end
section
variable {B : Heap} {N : Led}
theorem no_ok {p : Prop} (e : false = true) : p := nomatch e
theorem VR.reads {h : Heap} (hN : ∀ p ∈ N, h.get? p.1 = some p.2) {v : AV} {v' : Value} (r : VR B N v v') : v.dok = true → ∃ as, Reads h v' v.data as :=
  VR.rec (motive_1 := fun v v' _ => v.dok = true → ∃ as, Reads h v' v.data as) (motive_2 := fun v v' _ => AV.doks v = true → ∃ as, ReadsAll h v' (AV.datas v) as)
    (fun ok => no_ok ok) (fun _ ok => no_ok ok) (fun i t _ => ⟨[], .int i t⟩) (fun x t _ => ⟨[], .str x t⟩)
    (fun hm _ ih ok => let ⟨as, h1⟩ := ih ok; ⟨as, .tuple (hN _ hm) rfl rfl (by simpa using h1)⟩) (fun _ _ _ ok => no_ok ok) (fun _ _ _ ok => no_ok ok) (fun _ ok => no_ok ok) (fun _ ok => no_ok ok) (fun _ ok => no_ok ok)
    (fun _ _ _ _ ok => no_ok ok) (fun _ ok => no_ok ok) (fun _ => ⟨[], .nil⟩)
    (fun _ _ i1 i2 ok => let ⟨as, r1⟩ := i1 (Bool.and_eq_true_iff.mp ok).1; let ⟨bs, r2⟩ := i2 (Bool.and_eq_true_iff.mp ok).2; ⟨as ++ bs, .cons r1 r2⟩) r
end
section
variable {c : Cx} {env : Env} {loc : Loc} {H H' : Own} {P : AV → Own → Prop} {T : Tmp} {s : Shared} {pos : Pos} {v1 v2 : AV} {a : Addr} {i : Int} {x y : Str} {l : List AV} {k : Nat}
theorem OpC_deq (G : c.Good k) (k1 : v1.dok = true) (k2 : v2.dok = true) (s1 : SeqAt.shaped v1.data = true) (s2 : SeqAt.shaped v2.data = true) (mx : SeqAt.noMix v1.data v2.data = true) (h : P (.bool (PySem.Spec.same v1.data v2.data)) H) : OpC c .Eq v1 v2 loc H P := fun T s v1' v2' R m1 m2 => by
  obtain ⟨N, es, m, R⟩ := R
  have hN : ∀ p ∈ N, s.heap.get? p.1 = some p.2 := fun p hp => (R.nw p (List.mem_append_left _ hp)).1
  obtain ⟨as, r1⟩ := (R.tmp _ m1).reads hN k1
  obtain ⟨bs, r2⟩ := (R.tmp _ m2).reads hN k2
  exact eq_dataH_same r1 r2 s1 s2 (by have := G.room.units; show c.A.units + 64 < 9900; omega) mx ⟨_, _, R.rep.bool _, h⟩
theorem OpC_dne (G : c.Good k) (k1 : v1.dok = true) (k2 : v2.dok = true) (s1 : SeqAt.shaped v1.data = true) (s2 : SeqAt.shaped v2.data = true) (mx : SeqAt.noMix v1.data v2.data = true) (h : P (.bool (!PySem.Spec.same v1.data v2.data)) H) : OpC c .NotEq v1 v2 loc H P := fun T s v1' v2' R m1 m2 => by
  obtain ⟨N, es, m, R⟩ := R
  have hN : ∀ p ∈ N, s.heap.get? p.1 = some p.2 := fun p hp => (R.nw p (List.mem_append_left _ hp)).1
  obtain ⟨as, r1⟩ := (R.tmp _ m1).reads hN k1
  obtain ⟨bs, r2⟩ := (R.tmp _ m2).reads hN k2
  exact ne_dataH_same r1 r2 s1 s2 (by have := G.room.units; show c.A.units + 64 < 9900; omega) mx ⟨_, _, R.rep.bool _, h⟩
theorem OpU_neg (h : P (.int (-i)) H) : OpU c .USub (.int i) loc H P := fun T s v' R m => by
  obtain ⟨t, rfl⟩ := R.isInt m
  exact PyProof.Rows.neg_int ⟨_, _, R.tok.int _ _, h⟩
theorem OpI_cat (hz : x.length + y.length ≤ sizeLine) (h : P (.str (x ++ y)) H) : OpI c .Add (.str x) (.str y) loc H P := fun T s v1' v2' R m1 m2 => by
  obtain ⟨t, rfl⟩ := R.isStr m1; obtain ⟨u, rfl⟩ := R.isStr m2
  exact PyProof.Rows.iadd_str (fun t' tk => ⟨_, _, R.tok.str _ _, h⟩) hz
theorem OpG_own_last {z : AV} (hm : (a, AO.list (l ++ [z])) ∈ H) (hl : l.length ≤ 1000000) (h : P z H) : OpG c (.ref a) (.int (-1)) loc H P := fun T s v1' v2' R m1 m2 => by
  obtain ⟨t, rfl⟩ := R.isInt m2
  obtain rfl := R.isRef m1
  obtain ⟨N, es, m, R⟩ := R
  obtain ⟨e, ho, he⟩ := R.get hm
  obtain ⟨vs, n, rfl, hv⟩ := ho.list_inv
  · obtain ⟨u, hu, hr⟩ := hv.get (i := l.length) (x := z) (by simp)
    have hvl := hv.length
    rw [List.length_append, List.length_singleton] at hvl
    refine wpAny_getItem_list_neg ⟨_, (R.nw _ (he _ (.head _))).1, rfl, n, rfl⟩ (by decide) (by rw [List.size_toArray, hvl]; omega) (by decide) (x := u) ?_ ⟨z, H, (R.put hr).rep, h⟩
    have e1 : (-1 + ((vs.toArray.size : Nat) : Int)).toNat = l.length := by rw [List.size_toArray, hvl]; omega
    rw [e1]; simpa using hu
theorem OpS_own_last {z z' : AV} {Q : Own → Prop} (U : At a (.list (l ++ [z])) (.list (l ++ [z'])) H H') (hl : l.length ≤ 1000000) (h : Q H') : OpS c (.ref a) (.int (-1)) z' loc H Q := fun T s v1' v2' v3' R m1 m2 m3 => by
  obtain ⟨t, rfl⟩ := R.isInt m2
  obtain rfl := R.isRef m1
  obtain ⟨N, es, m, R⟩ := R
  have hv3 := R.tmp _ m3
  obtain ⟨e, ho, hg, kk⟩ := R.updG U
  obtain ⟨vs, n, rfl, hv⟩ := ho.list_inv
  · have hvl := hv.length
    rw [List.length_append, List.length_singleton] at hvl
    have e1 : (-1 + ((vs.toArray.size : Nat) : Int)).toNat = l.length := by rw [List.size_toArray, hvl]; omega
    refine ki_setBack (hg _ (.head _)) (by decide) (by rw [List.size_toArray, hvl]; omega) (by decide) ⟨H', ?_, h⟩
    rw [e1]
    have e2 : (l ++ [z]).set l.length z' = l ++ [z'] := by simp
    have hv' := hv.set l.length hv3
    rw [e2] at hv'
    refine kk [] a _ [] rfl _ _ s.toks rfl rfl ?_
    have e3 : vs.toArray.setIfInBounds l.length v3' = (vs.set l.length v3').toArray := by simp
    have : Obj.mapSeq (fun x => x.setIfInBounds l.length v3') (W.listOf vs.toArray n) = W.listOf (vs.set l.length v3').toArray n := by
      show ({ cls := _, dict := _, data := .seq (vs.toArray.setIfInBounds l.length v3') (if (vs.toArray.setIfInBounds l.length v3').size == vs.toArray.size then n else n + 1) } : Obj) = _
      rw [e3]
      have : ((vs.set l.length v3').toArray.size == vs.toArray.size) = true := by simp
      rw [this]; rfl
    rw [this]
    exact .list hv'
theorem OpT_own {P : Bool → Own → Prop} (hm : (a, AO.list l) ∈ H) (hl : l.length ≤ 1000000) (h : P (decide (l ≠ [])) H) : OpT c (.ref a) loc H P := fun T s v1' R m1 => by
  obtain rfl := R.isRef m1
  obtain ⟨N, vs, n, ho, hv⟩ := R.ownList hm
  have hvl := hv.length
  refine wpAny_truthy_list ⟨_, ho, rfl, n, rfl⟩ (by rw [List.size_toArray, hvl]; omega) ⟨H, R.tok, ?_⟩
  have e : (!vs.toArray.isEmpty) = decide (l ≠ []) := by
    cases vs with
    | nil => have : l = [] := by cases l; rfl; simp at hvl
             subst this; rfl
    | cons v r => cases l with
      | nil => simp at hvl
      | cons z w => simp
  rw [e]; exact h
theorem OpC_in (h : P (.bool (Txt.contains x y)) H) : OpC c .In (.str y) (.str x) loc H P := fun T s v1' v2' R m1 m2 => by
  obtain ⟨t, rfl⟩ := R.isStr m1; obtain ⟨u, rfl⟩ := R.isStr m2
  exact SB.contains ⟨_, _, R.bool _, h⟩
theorem OpG_str (hr : fitsSsize i = true) (hin : (Txt.charAt x i).isSome = true) (h : P (.str (Txt.item x i)) H) : OpG c (.str x) (.int i) loc H P := fun T s v1' v2' R m1 m2 => by
  obtain ⟨t, rfl⟩ := R.isStr m1; obtain ⟨u, rfl⟩ := R.isInt m2
  exact SB.getItem hr hin ⟨_, _, R.tok.str _ _, h⟩
theorem OpG_tup {j : Nat} {z : AV} (hlo : -(2 ^ 63) ≤ i) (hhi : i < 2 ^ 63) (hj : seqIndex? i l.length = some j) (hx : l[j]? = some z) (h : P z H) : OpG c (.tup l) (.int i) loc H P := fun T s v1' v2' R m1 m2 => by
  obtain ⟨t, rfl⟩ := R.isInt m2
  obtain ⟨N, es, m, R⟩ := R
  obtain ⟨ax, vs, rfl, hN, hv⟩ := (R.tmp _ m1).tup_inv
  · obtain ⟨u, hu, hr⟩ := hv.get hx
    have hT : IsTup s.heap ax vs.toArray := ⟨_, (R.nw _ (List.mem_append_left _ hN)).1, rfl, 0, rfl⟩
    exact getItem_tuple hT hlo hhi (by rw [List.size_toArray, hv.length]; exact hj) (by simpa using hu) ⟨z, H, (R.put hr).rep, h⟩
end
end
section
theorem argsga (a b : Value) : argsOk "list.__getattribute__" ⟨[a, b], []⟩ := by unfold argsOk; kernel_rfl
section
variable {c : Cx} {env : Env} {loc : Loc} {H H' : Own} {P : AV → Own → Prop} {T : Tmp} {s : Shared} {N es : Led} {m : Str → Option Value} {a g : Addr} {ini : Int} {l : List (Str × Str)} {k : Nat} {pos : Pos}
theorem acc_bound {name : String} {f : Addr} (G : c.Good k) (R : RepW c loc H T s N es m) (hm : (a, AO.acc ini l) ∈ H) (hne : name ≠ "_initial_size") (hf : findIn (KF c.w) (.ref CAcc) (Str.ofString name) = some (some (.ref f))) (hgf : specialIn (KF c.w) (.ref f) "__get__" = some (some (.builtin "function.__get__"))) (ht : takesIn (KF c.w) (.ref f) = some false)
    (hc : copiedNames.contains (Str.ofString name) = false) (hfn : typeIn (KF c.w) (.ref f) = some (.type "function")) {A : Around} {E : Value → Shared → Prop} {Q : Value → Shared → Prop} {expr : Bool}
    (h : Q (.ref s.heap.objs.size) { s with heap := s.heap.push (methodObj (.ref f) (.ref a)), toks := s.toks + 1 }) :
    wpAny (model pg c.w) A (getAttr (.ref a) (Str.ofString name) expr) Q E s := by
  obtain ⟨dx, vs, n, mm, hh, t, t', Z⟩ := R.accAt hm
  have X := R.KI G
  have L0 := Z.I.type (M := model pg c.w)
  have hfo : findObj (KF c.w) CAcc (some (dictOf [⟨hh, .str (Str.ofString "_initial_size") t, .int ini t'⟩] mm)) (Str.ofString name) = some (.bind (.builtin "function.__get__") (.ref f)) :=
    findObj_fn (by kernel_rfl) hf hgf ht hc (show lookIn (Str.ofString name) (dictOf [⟨hh, .str (Str.ofString "_initial_size") t, .int ini t'⟩] mm) = some none from getL_other hne)
  unfold getAttr getAttrBy
  refine wpAny_bind (wpAny_mkText (wpAny_holding (wpAny_bind (looksOn L0 (fun _ _ e => e) (wpAny_bind (looksOn (looks_findIn X (r := some (.builtin "list.__getattribute__")) (by kernel_rfl)) (fun _ _ e => e) ?_))))))
  show wpAny _ _ (getAttrByItsOwn (.ref a) (.str (Str.ofString name) s.toks) (.ref CAcc) (.builtin "list.__getattribute__") true expr) _ _ _
  unfold getAttrByItsOwn hookBefore
  refine wpAny_bind (looksOn (looks_findIn X (r := none) (by kernel_rfl)) (fun _ _ e => e) ?_)
  refine wpAny_bind (wpAny_attempt (wpAny_holding ?_))
  have e1 : callGetattribute (.ref a) (.str (Str.ofString name) s.toks) (.builtin "list.__getattribute__") expr = boundAndCalled (.builtin "list.__getattribute__") (.ref a) (.str (Str.ofString name) s.toks) := by
    unfold callGetattribute; simp [onTheHeap]
  rw [e1]
  unfold boundAndCalled
  refine wpAny_bind (wpAny_of_eq (a := (.builtin "list.__getattribute__", [.ref a])) (by kernel_rfl) ?_)
  have I' : W.InstAt ({ s with toks := s.toks + 1 } : Shared).heap a (accO CAcc dx vs n) CAcc (some (dictOf [⟨hh, .str (Str.ofString "_initial_size") t, .int ini t'⟩] mm)) := Z.I
  have key : wpAny (model pg c.w) A (call (.builtin "list.__getattribute__") ([.ref a] ++ [.str (Str.ofString name) s.toks])) (fun v s' => v = .ref s.heap.objs.size ∧ s' = { s with heap := s.heap.push (methodObj (.ref f) (.ref a)), toks := s.toks + 1 }) (fun _ _ => False) { s with toks := s.toks + 1 } := by
    refine below_call (s := { s with toks := s.toks + 1 }) S_ga X I' (argsga _ _) ?_
    unfold Builtin.«object.__getattribute__»
    refine wpAny_bind (wpAny_pure (wpAny_bind (wpAny_pure (wpAny_bind (looksOn L0 (fun _ _ e => e) (wpAny_bind (looksOn (looks_find X Z.I hfo) (fun _ _ e => e) ?_)))))))
    show wpAny _ _ (Builtin.ObjectAttr.bindTo (.builtin "function.__get__") (.ref f) (.ref a) (.ref CAcc)) _ _ _
    unfold Builtin.ObjectAttr.bindTo
    refine wpAny_bind (wpAny_holding (wpAny_call (fn_get (s := { s with toks := s.toks + 1 }) X hfn ?_)))
    exact wpAny_pure ⟨_, rfl, rfl, rfl⟩
  refine wpAny_mono key (fun v s' ⟨e1, e2⟩ => ?_) fun _ _ e => e.elim
  subst e1 e2
  exact wpAny_pure h
theorem AE_accstar {o e : Expr} {name : String} {apos p : Pos} {f : Addr} (G : c.Good k) (hne : name ≠ "_initial_size") (hf : ∀ w, findIn (KF w) (.ref CAcc) (Str.ofString name) = some (some (.ref f))) (hgf : ∀ w, specialIn (KF w) (.ref f) "__get__" = some (some (.builtin "function.__get__"))) (ht : ∀ w, takesIn (KF w) (.ref f) = some false)
    (hc : copiedNames.contains (Str.ofString name) = false) (hfn : ∀ w, typeIn (KF w) (.ref f) = some (.type "function")) (hfi : ∀ w, fnIn (KF w) f = true)
    (h : AE c env o loc H fun v H1 => ∃ a ini l, v = .ref a ∧ (a, AO.acc ini l) ∈ H1 ∧ AE c env e loc H1 fun v2 H2 => ∃ l, v2 = .tup l ∧ l.length ≤ 1000 ∧ AF k (.ref f) (.ref a :: l) H2 P)
    (h1 : eval (.Call (.Attribute o (Str.ofString name) apos) [.Starred e p] [] pos) env = (do
      let ov ← eval o env
      standAt apos.atName
      let (f, first) ← holding [ov] (do pure (← getAttr ov (Str.ofString name) true, []))
      callWith pos f first (backTo pos (starEach [.Starred e p] env)) (backToKw pos (keywordEach [] env))) := by with_unfolding_all rfl)
    (h2 : starEach [.Starred e p] env = [(true, eval e env)] := by with_unfolding_all rfl) : AE c env (.Call (.Attribute o (Str.ofString name) apos) [.Starred e p] [] pos) loc H P := fun T s R => by
  unfold W
  rw [h1]
  refine wpAny_bind (thenW (h T s R) fun v' s1 v H1 R1 ⟨a, ini, l, hv, hm, hh⟩ => ?_)
  subst hv
  obtain rfl := R1.isRef (.head _)
  obtain ⟨N, es, m, R1⟩ := R1
  refine wpAny_bind (wpAny_standAt (wpAny_bind (wpAny_holding (wpAny_bind (acc_bound G R1 hm hne (hf c.w) (hgf c.w) (ht c.w) hc (hfn c.w) (wpAny_pure ?_))))))
  have R2 := R1.newN (tk := s1.toks + 1) (R1.F.push (methodObj (.ref f) (.ref a))) (News.push R1.F R1.nw _ rfl) fun p hp => Heap.lt_size (R1.nw p hp).1
  generalize s1.heap.objs.size = q at R2
  rw [h2]
  refine ks_call rfl (keeps_M (q := q) (self := .ref a) (hfi c.w)) (ks_lone (thenW (hh ((.meth f a, .ref q) :: (.ref a, .ref a) :: T) _ ((R2.put (.meth (.head _))).rep)) fun t' s2 v2 H2 R3 ⟨l2, hv2, hl2, hcall⟩ => ?_))
  subst hv2
  have R3' := R3
  obtain ⟨N3, es3, m3, R3⟩ := R3
  have hq : s2.heap.get? q = some (methodObj (.ref f) (.ref a)) := by
    cases R3.tmp (.meth f a, .ref q) (.tail _ (.head _)) with
    | meth hN => exact (R3.nw _ (List.mem_append_left _ hN)).1
  obtain ⟨ax, vs, rfl, hN, hv⟩ := (R3.tmp _ (.head _)).tup_inv
  · refine star_seq R3.F R3.nw (List.mem_append_left _ hN) rfl rfl (.inr rfl) rfl (by rw [List.size_toArray, hv.length]; exact Nat.le_trans hl2 (by decide)) fun h' F' N' => ?_
    have R4 := R3.keep (tk := s2.toks) F' N'
    have hq' : h'.get? q = some (methodObj (.ref f) (.ref a)) := by
      cases R4.tmp (.meth f a, .ref q) (.tail _ (.head _)) with
      | meth hN => exact (R4.nw _ (List.mem_append_left _ hN)).1
    refine ⟨⟨hq', G.K.keeps F'.keep⟩, wpAny_call (ks_codeAny_call_bound hq' ?_)⟩
    have hvs : ∀ (l : List AV) (vs : List Value), VRs c.base N3 l vs → ∀ {T : Tmp}, RepW c loc H2 T { s2 with heap := h', toks := s2.toks } N3 es3 m3 → ∃ T', RepW c loc H2 T' { s2 with heap := h', toks := s2.toks } N3 es3 m3 ∧ ArgsIn T' l vs ∧ ∀ p ∈ T, p ∈ T' := by
      intro l vs hv
      induction hv using VRs.rec (motive_1 := fun _ _ _ => True) with
      | nil => intro T R; exact ⟨T, R, .nil, fun p hp => hp⟩
      | cons hx _ _ ih =>
        intro T R
        obtain ⟨T', R', hA, hT⟩ := ih R
        exact ⟨_, R'.put hx, .cons (.head _) (hA.mono fun p hp => .tail _ hp), fun p hp => .tail _ (hT p hp)⟩
      | none | bool | int | str | tup | lst | blst | ref | val | rng | slc | meth => trivial
    obtain ⟨T', R5, hA, hT⟩ := hvs _ _ hv R4
    refine codeAny_mono (hcall c c.A loc T' _ _ (G.le (Nat.zero_le _)) G.frames G.room R5.rep (.cons (hT _ (.tail _ (.tail _ (.head _)))) hA)) fun r s' hr => ?_
    unfold RP at hr
    split at hr
    · obtain ⟨v, H5, R6, p⟩ := hr
      refine ⟨v, H5, R6.sub fun p hp => ?_, p⟩
      rcases List.mem_cons.mp hp with rfl | hp
      · exact .head _
      · exact .tail _ (hT _ (.tail _ (.tail _ (.tail _ hp))))
    · exact hr.elim
end
end
section
noncomputable abbrev FmtF (cw sc : Str) (mx : Int) (ln ac : Addr) : List (String × AV) := [("_maxlen", .int mx), ("_continuation_ws", .str cw), ("_continuation_ws_len", .int cw.length), ("_splitchars", .str sc), ("_lines", .ref ln), ("_current_line", .ref ac)]
noncomputable abbrev FmtH (mk ln ac : Addr) (sc : Str) (mx ini : Int) (parts : List (Str × Str)) (lines : List Str) (H0 : Own) : Own := (ac, .acc ini parts) :: (ln, .list (lines.map AV.str)) :: (mk, .inst 94 (FmtF "" sc mx ln ac)) :: H0
structure Tabs (H : Own) : Prop where
  t1 : (140, AO.table 93 19) ∈ H
  t2 : (147, AO.table 96 32) ∈ H
theorem Tabs.cons {H : Own} {p : Addr × AO} (h : Tabs H) : Tabs (p :: H) := ⟨.tail _ h.t1, .tail _ h.t2⟩
structure Attr94 (name : String) : Prop where
  p : ∀ w, plainGet (KF w) 94 (Str.ofString name) = true
  f : ∀ w, findIn (KF w) (.ref 94) (Str.ofString name) = some none
theorem hd94 : ∀ w, hasDictIn (KF w) 94 = true := fun w => by kernel_rfl
theorem a_maxlen : Attr94 "_maxlen" := ⟨fun w => by kernel_rfl, fun w => by kernel_rfl⟩
theorem a_split : Attr94 "_splitchars" := ⟨fun w => by kernel_rfl, fun w => by kernel_rfl⟩
theorem a_lines : Attr94 "_lines" := ⟨fun w => by kernel_rfl, fun w => by kernel_rfl⟩
theorem a_cur : Attr94 "_current_line" := ⟨fun w => by kernel_rfl, fun w => by kernel_rfl⟩
section
variable {c : Cx} {env : Env} {loc : Loc} {H H' : Own} {P : AV → Own → Prop} {pos : Pos} {mk ln ac : Addr} {cw sc : Str} {mx : Int} {k : Nat}
theorem AE_fmt {e : Expr} {name : String} {u : AV} (A : Attr94 name) (G : c.Good k) (hm : (mk, AO.inst 94 (FmtF cw sc mx ln ac)) ∈ H) (hu : fget name (FmtF cw sc mx ln ac) = some u) (hh : u.handed = true) (h : P u H) (he1 : AE c env e loc H fun v H1 => v = .ref mk ∧ H1 = H)
    (he : eval (.Attribute e (Str.ofString name) pos) env = (do
      let o ← eval e env
      standAt pos.atName
      let r ← holding [o] (getAttr o (Str.ofString name) true)
      letTemporaryGo e o r
      pure r) := by with_unfolding_all rfl) : AE c env (.Attribute e (Str.ofString name) pos) loc H P :=
  AE_attr G (he1.mono fun v H1 ⟨e1, e2⟩ => by subst e1 e2; exact ⟨mk, 94, _, u, rfl, hm, hu, hh, A.p, hd94, A.f, h⟩) he
end
noncomputable def nlParts (parts : List (Str × Str)) : List (Str × Str) := match parts.getLast? with
  | none => [("", "")]
  | some p => if p = ((" " : Str), ("" : Str)) then parts.dropLast else parts
noncomputable def nlLines (ini : Int) (parts : List (Str × Str)) (lines : List Str) : List Str :=
  if 0 < ini + accLen (nlParts parts) then (match onlyws ini (nlParts parts), lines.getLast? with
    | true, some z => lines.dropLast ++ [z ++ accStr (nlParts parts)]
    | _, _ => lines ++ [accStr (nlParts parts)]) else lines
theorem nlParts_snoc (l : List (Str × Str)) (p : Str × Str) : nlParts (l ++ [p]) = if p = ((" " : Str), ("" : Str)) then l else l ++ [p] := by
  simp [nlParts]
theorem accLen_snoc (l : List (Str × Str)) (p : Str × Str) : accLen (l ++ [p]) = accLen l + (p.1.length + p.2.length) := by
  simp [accLen]
structure FBound (ini : Int) (parts : List (Str × Str)) (lines : List Str) : Prop where
  ok : ∀ p ∈ parts, PyData.strOk p.1 = true ∧ PyData.strOk p.2 = true
  i0 : 0 ≤ ini
  i1 : ini < 2 ^ 30
  p : accLen parts + parts.length ≤ 400000
  l : lines.length ≤ 100000
  x : ∀ z ∈ lines, z.length ≤ 1000000
theorem nlParts_bound {parts : List (Str × Str)} (h : accLen parts + parts.length ≤ 400000) : accLen (nlParts parts) + (nlParts parts).length ≤ 400001 := by
  rcases List.eq_nil_or_concat parts with rfl | ⟨l, p, rfl⟩
  · have : accLen (nlParts []) + (nlParts []).length = 1 := by decide
    omega
  · rw [List.concat_eq_append] at h ⊢
    rw [nlParts_snoc]
    rw [accLen_snoc, List.length_append] at h
    split
    · omega
    · rw [accLen_snoc, List.length_append]; omega
theorem accStr_len (l : List (Str × Str)) : (accStr l).length = accLen l := by
  have key : ∀ ys : List Str, (Str.join ("" : Str) ys).length = (ys.map (·.length)).sum := by
    intro ys
    induction ys with
    | nil => rfl
    | cons y r ih =>
      cases r with
      | nil => simp [Str.join]
      | cons z q =>
        show (y ++ ("" : Str) ++ Str.join "" (z :: q)).length = _
        rw [len_app, len_app, ih, empty_len]
        simp
  rw [key, pairs_sum]
theorem shaped2 {x y : Str} (hx : PyData.strOk x = true) (hy : PyData.strOk y = true) : SeqAt.shaped (pairAV (x, y)).data = true := by
  simp [AV.data, AV.datas, SeqAt.shaped, PyData.canLay0, PyData.canLayAll0, PyData.depth, PyData.depthAll, hx, hy]
theorem same2 {p q : Str × Str} : PySem.Spec.same (pairAV p).data (pairAV q).data = decide (p = q) := by
  obtain ⟨a, b⟩ := p; obtain ⟨c, d⟩ := q
  simp only [AV.data, AV.datas, PySem.Spec.same, PySem.Spec.sameAll, Bool.and_true, bd, Prod.mk.injEq]
  by_cases h1 : a = c <;> by_cases h2 : b = d <;> simp [h1, h2]
set_option maxHeartbeats 4000000 in
theorem newline_spec {k : Nat} {H0 : Own} {P : AV → Own → Prop} {mk ln ac : Addr} {sc : Str} {mx ini : Int} {parts : List (Str × Str)} {lines : List Str} (TB : Tabs H0) (B : FBound ini parts lines) (h : P .none (FmtH mk ln ac sc mx 0 [] (nlLines ini parts lines) H0)) :
    AF (k + 5) (.ref 56) [.ref mk] (FmtH mk ln ac sc mx ini parts lines H0) P := by
  refine AF_def (ds := []) ["self"] ["end_of_line"] [("self", some (.ref mk)), ("end_of_line", none)] (fun w => by rfl) (fun w => by rfl) rfl (by decide) ?_ (by decide +kernel) ?_ (by decide)
  · intro w s args' hl hk
    obtain ⟨x, rfl⟩ := ln1 hl
    exact ⟨[], BindsTo.of_eq rfl, fun _ _ => .nil⟩
  · intro w os base outer A₀ A h₀ L X Y c G
    have hb := nlParts_bound B.p
    have hp := B.p
    refine ASs_cut (fun l H1 => ∃ p, l = [("self", some (.ref mk)), ("end_of_line", some (pairAV p))] ∧ ((parts = [] ∧ p = (("" : Str), ("" : Str)) ∧ H1 = FmtH mk ln ac sc mx ini [] lines H0) ∨ ∃ l0, parts = l0 ++ [p] ∧ H1 = FmtH mk ln ac sc mx ini l0 lines H0)) (AS_assign (AE_methf0 138 G (fun w => by kernel_rfl) ?_)) ?_
    · refine AE_fmt (u := .ref ac) (cw := "") a_cur G (mi 2 rfl) (by simp [fget]) rfl ?_ (by refine AE_local (by assumption) (.head _) ?_; exact ⟨rfl, rfl⟩)
      refine ⟨OpMeth_accf G (.head _) (by decide) (fun w => by kernel_rfl) (fun w => by kernel_rfl), OpCall_of G ?_⟩
      rcases List.eq_nil_or_concat parts with rfl | ⟨l0, p, rfl⟩
      · refine pop_nil_spec (k := k + 2) (ini := ini) (.head _) ?_
        (with_reducible refine St1_local (by assumption) (by with_reducible repeat first | exact SetL.head | apply SetL.tail) ?_)
        exact ⟨rfl, _, rfl, .inl ⟨rfl, rfl, rfl⟩⟩
      · rw [List.concat_eq_append] at *
        rw [List.length_append] at hp
        refine pop_spec (k := k + 2) (by with_reducible repeat first | exact At.head | apply At.tail) (by omega) ?_
        (with_reducible refine St1_local (by assumption) (by with_reducible repeat first | exact SetL.head | apply SetL.tail) ?_)
        exact ⟨rfl, p, rfl, .inr ⟨l0, rfl, rfl⟩⟩
    · rintro l H1 ⟨p, rfl, hH⟩
      refine ASs_cut (fun l H1 => l = [("self", some (.ref mk)), ("end_of_line", some (pairAV p))] ∧ H1 = FmtH mk ln ac sc mx ini (nlParts parts) lines H0) (AS_if (AB_compare ?_)) ?_
      · refine AE_local (by assumption) (mi 1 rfl) ?_
        refine AE_tuple ?_
        refine AEs_cons ?_; refine AE_str ?_; refine AEs_cons ?_; refine AE_str ?_; refine AEs_nil ?_
        have hok : PyData.strOk p.1 = true ∧ PyData.strOk p.2 = true := by
          rcases hH with ⟨rfl, rfl, rfl⟩ | ⟨l0, rfl, rfl⟩
          · exact ⟨by decide +kernel, by decide +kernel⟩
          · exact B.ok p (by simp)
        refine ⟨by decide, OpC_dne G (by rfl) (by rfl) (shaped2 hok.1 hok.2) (shaped2 (by decide +kernel) (by decide +kernel)) (by simp [AV.data, AV.datas, SeqAt.noMix, SeqAt.noMixAll]) ⟨_, rfl, fun hb => ?_, fun hb => ?_⟩⟩
        · have hne : ¬ p = ((" " : Str), ("" : Str)) := fun e => by
            have hb' : (!PySem.Spec.same (pairAV p).data (pairAV ((" " : Str), ("" : Str))).data) = true := hb
            rw [same2, e] at hb'; simp at hb'
          have hmk : (mk, AO.inst 94 (FmtF "" sc mx ln ac)) ∈ H1 ∧ ∃ pp, (ac, AO.acc ini pp) ∈ H1 := by
            rcases hH with ⟨rfl, rfl, rfl⟩ | ⟨l0, rfl, rfl⟩ <;> exact ⟨by simp, _, List.mem_cons_self⟩
          refine ASs_cons (AS_expr (AE_accstar (f := 122) G (by decide) (fun w => by kernel_rfl) (fun w => by kernel_rfl) (fun w => by kernel_rfl) (by decide) (fun w => by kernel_rfl) (fun w => by kernel_rfl) ?_))
          refine AE_fmt (u := .ref ac) (cw := "") a_cur G hmk.1 (by simp [fget]) rfl ?_ (by refine AE_local (by assumption) (.head _) ?_; exact ⟨rfl, rfl⟩)
          obtain ⟨pp, hpp⟩ := hmk.2
          refine ⟨ac, ini, pp, rfl, hpp, ?_⟩
          refine AE_local (by assumption) (mi 1 rfl) ?_
          refine ⟨_, rfl, by simp, ?_⟩
          rcases hH with ⟨rfl, rfl, rfl⟩ | ⟨l0, rfl, rfl⟩
          · exact push_spec (k := k + 3) (l := []) (p := (("" : Str), ("" : Str))) At.head (by decide) (ASs_nil ⟨rfl, rfl, rfl⟩)
          · rw [List.length_append] at hp
            refine push_spec (k := k + 3) (p := p) (by with_reducible repeat first | exact At.head | apply At.tail) (by omega) (ASs_nil ⟨rfl, rfl, ?_⟩)
            rw [nlParts_snoc, if_neg hne]
        · have he : p = ((" " : Str), ("" : Str)) := by
            have hb' : (!PySem.Spec.same (pairAV p).data (pairAV ((" " : Str), ("" : Str))).data) = false := hb
            rw [same2] at hb'
            simpa using hb'
          rcases hH with ⟨rfl, rfl, rfl⟩ | ⟨l0, rfl, rfl⟩
          · exact absurd he (by decide)
          · refine ASs_nil ⟨rfl, rfl, ?_⟩
            rw [nlParts_snoc, if_pos he]
      · rintro l H1 ⟨rfl, rfl⟩
        have hi0 := B.i0
        have hi1 := B.i1
        have hll := B.l
        refine ASs_cut (fun l H1 => l = [("self", some (.ref mk)), ("end_of_line", some (pairAV p))] ∧ H1 = FmtH mk ln ac sc mx ini (nlParts parts) (nlLines ini parts lines) H0) (AS_if (AB_compare (AE_callb "len" ?_))) ?_
        · with_reducible refine AE_builtin (by assumption) (fun _ => by with_unfolding_all rfl) (by with_unfolding_all rfl) (by decide) (by with_unfolding_all rfl) ?_
          refine ⟨rfl, ?_⟩
          refine AEs_cons ?_
          refine AE_fmt (u := .ref ac) (cw := "") a_cur G (mi 2 rfl) (by simp [fget]) rfl ?_ (by refine AE_local (by assumption) (.head _) ?_; exact ⟨rfl, rfl⟩)
          refine AEs_nil ?_
          refine OpCall_len_acc (k := k + 2) G (.head _) TB.cons.cons.cons.t1 hi0 (by omega) (by omega) ?_
          refine AE_int ?_
          refine OpC_gt ⟨_, rfl, fun hb => ?_, fun hb => ?_⟩
          · have hb : 0 < ini + ↑(accLen (nlParts parts)) := by simpa using hb
            refine ASs_cons (AS_if (AB_and (AB_plain (AE_methf0 167 G (fun w => by kernel_rfl) ?_))))
            refine AE_fmt (u := .ref ac) (cw := "") a_cur G (mi 2 rfl) (by simp [fget]) rfl ?_ (by refine AE_local (by assumption) (.head _) ?_; exact ⟨rfl, rfl⟩)
            refine ⟨OpMeth_accf G (.head _) (by decide) (fun w => by kernel_rfl) (fun w => by kernel_rfl), OpCall_of G (onlyws_spec (k := k + 1) (.head _) TB.cons.cons.cons.t1 TB.cons.cons.cons.t2 hi0 (by omega) (by omega) (OpT_bool ⟨fun ho => AB_and (AB_plain ?_), fun ho => ?_⟩))⟩
            · refine AE_fmt (u := .ref ln) (cw := "") a_lines G (mi 2 rfl) (by simp [fget]) rfl ?_ (by refine AE_local (by assumption) (.head _) ?_; exact ⟨rfl, rfl⟩)
              refine OpT_own (l := lines.map AV.str) (mi 1 rfl) (by simp; omega) ⟨fun hne => AB_and_nil ⟨fun _ => ?_, fun hh => absurd hh (by decide)⟩, fun hne => ⟨fun hh => absurd hh (by decide), fun _ => ?_⟩⟩
              · rcases List.eq_nil_or_concat lines with rfl | ⟨l0, z, rfl⟩
                · simp at hne
                · rw [List.concat_eq_append] at *
                  rw [List.length_append] at hll
                  have hz := B.x z (by simp)
                  have eH : ∀ (H0 : Own) (zz : Str), FmtH mk ln ac sc mx ini (nlParts parts) (l0 ++ [zz]) H0 = (ac, .acc ini (nlParts parts)) :: (ln, .list (l0.map AV.str ++ [.str zz])) :: (mk, .inst 94 (FmtF "" sc mx ln ac)) :: H0 := fun H0 zz => by simp [FmtH]
                  rw [eH]
                  refine ASs_cons (AS_augsub ?_)
                  refine AE_fmt (u := .ref ln) (cw := "") a_lines G (mi 2 rfl) (by simp [fget]) rfl ?_ (by refine AE_local (by assumption) (.head _) ?_; exact ⟨rfl, rfl⟩)
                  refine AE_unary ?_
                  refine AE_int ?_
                  refine OpU_neg (OpG_own_last (l := l0.map AV.str) (z := .str z) (mi 1 rfl) (by simp; omega) (AE_callt "str" ?_))
                  with_reducible refine AE_builtin (by assumption) (fun _ => by with_unfolding_all rfl) (by with_unfolding_all rfl) (by decide) (by with_unfolding_all rfl) ?_
                  refine ⟨rfl, ?_⟩
                  refine AEs_cons ?_
                  refine AE_fmt (u := .ref ac) (cw := "") a_cur G (mi 2 rfl) (by simp [fget]) rfl ?_ (by refine AE_local (by assumption) (.head _) ?_; exact ⟨rfl, rfl⟩)
                  refine AEs_nil ?_
                  refine OpCall_str_acc (k := k + 2) G (.head _) TB.cons.cons.cons.t2 (by omega) (OpI_cat ?_ (OpS_own_last (l := l0.map AV.str) (z := .str z) (by with_reducible repeat first | exact At.head | apply At.tail) (by simp; omega) (ASs_nil (ASs_nil ⟨rfl, rfl, ?_⟩))))
                  · rw [accStr_len]; have : sizeLine = 2 ^ 24 := rfl; omega
                  · have e2 : nlLines ini parts (l0 ++ [z]) = l0 ++ [z ++ accStr (nlParts parts)] := by simp [nlLines, hb, ho]
                    rw [e2, eH]
              · have hn : lines = [] := by
                  cases lines with
                  | nil => rfl
                  | cons z r => simp at hne
                refine ASs_cons (AS_expr (AE_methb "list.append" ?_))
                refine AE_fmt (u := .ref ln) (cw := "") a_lines G (mi 2 rfl) (by simp [fget]) rfl ?_ (by refine AE_local (by assumption) (.head _) ?_; exact ⟨rfl, rfl⟩)
                refine ⟨OpMeth_append (l := lines.map AV.str) (mi 1 rfl), AEs_cons (AE_callt "str" ?_)⟩
                with_reducible refine AE_builtin (by assumption) (fun _ => by with_unfolding_all rfl) (by with_unfolding_all rfl) (by decide) (by with_unfolding_all rfl) ?_
                refine ⟨rfl, ?_⟩
                refine AEs_cons ?_
                refine AE_fmt (u := .ref ac) (cw := "") a_cur G (mi 2 rfl) (by simp [fget]) rfl ?_ (by refine AE_local (by assumption) (.head _) ?_; exact ⟨rfl, rfl⟩)
                refine AEs_nil ?_
                refine OpCall_str_acc (k := k + 2) G (.head _) TB.cons.cons.cons.t2 (by omega) ?_
                refine AEs_nil ?_
                refine OpCall_append (l := lines.map AV.str) (by with_reducible repeat first | exact At.head | apply At.tail) (by simp; omega) (ASs_nil (ASs_nil ⟨rfl, rfl, ?_⟩))
                have e2 : nlLines ini parts lines = lines ++ [accStr (nlParts parts)] := by simp [nlLines, hb, ho, hn]
                rw [e2]; simp [FmtH]
            · refine ⟨fun hh => absurd hh (by decide), fun _ => ?_⟩
              refine ASs_cons (AS_expr (AE_methb "list.append" ?_))
              refine AE_fmt (u := .ref ln) (cw := "") a_lines G (mi 2 rfl) (by simp [fget]) rfl ?_ (by refine AE_local (by assumption) (.head _) ?_; exact ⟨rfl, rfl⟩)
              refine ⟨OpMeth_append (l := lines.map AV.str) (mi 1 rfl), AEs_cons (AE_callt "str" ?_)⟩
              with_reducible refine AE_builtin (by assumption) (fun _ => by with_unfolding_all rfl) (by with_unfolding_all rfl) (by decide) (by with_unfolding_all rfl) ?_
              refine ⟨rfl, ?_⟩
              refine AEs_cons ?_
              refine AE_fmt (u := .ref ac) (cw := "") a_cur G (mi 2 rfl) (by simp [fget]) rfl ?_ (by refine AE_local (by assumption) (.head _) ?_; exact ⟨rfl, rfl⟩)
              refine AEs_nil ?_
              refine OpCall_str_acc (k := k + 2) G (.head _) TB.cons.cons.cons.t2 (by omega) ?_
              refine AEs_nil ?_
              refine OpCall_append (l := lines.map AV.str) (by with_reducible repeat first | exact At.head | apply At.tail) (by simp; omega) (ASs_nil (ASs_nil ⟨rfl, rfl, ?_⟩))
              have e2 : nlLines ini parts lines = lines ++ [accStr (nlParts parts)] := by simp [nlLines, hb, ho]
              rw [e2]; simp [FmtH]
          · refine ASs_nil ⟨rfl, rfl, ?_⟩
            have hb : ¬ 0 < ini + ↑(accLen (nlParts parts)) := by simpa using hb
            simp [nlLines, hb]
        · rintro l H1 ⟨rfl, rfl⟩
          refine ASs_cons (AS_expr (AE_methf0 160 G (fun w => by kernel_rfl) ?_))
          refine AE_fmt (u := .ref ac) (cw := "") a_cur G (mi 2 rfl) (by simp [fget]) rfl ?_ (by refine AE_local (by assumption) (.head _) ?_; exact ⟨rfl, rfl⟩)
          exact ⟨OpMeth_accf G (.head _) (by decide) (fun w => by kernel_rfl) (fun w => by kernel_rfl), OpCall_of G (reset0_spec (k := k + 3) (by with_reducible repeat first | exact At.head | apply At.tail) (by omega) (ASs_nil h))⟩
end
section
section
variable {c : Cx} {env : Env} {loc : Loc} {H H' : Own} {P : AV → Own → Prop} {pos : Pos} {a mk ln ac : Addr} {sc : Str} {mx : Int} {k : Nat} {fs : List (String × AV)}
structure Put94 (name : String) : Prop where
  t : ∀ w, takerIn (KF w) 94 (Str.ofString name) = some none
theorem AS_set94 {e1 e : Expr} {name : String} {p1 : Pos} {P : SP} (G : c.Good k) (h5 : ∀ w, takerIn (KF w) 94 (Str.ofString name) = some none) (h : AE c env e loc H fun v H1 => AE c env e1 loc H1 fun v1 H2 => ∃ a fs H3, v1 = .ref a ∧ At a (.inst 94 fs) (.inst 94 (fput name v fs)) H2 H3 ∧ fs.length ≤ 100 ∧ P .next loc H3)
    (hs : swapsWith e (some (.Attribute e1 (Str.ofString name) p1)) pos.line env = pure false := by first | rfl | with_unfolding_all rfl) : AS c env (.Assign [.Attribute e1 (Str.ofString name) p1] e pos) loc H P :=
  AS_setfield G (h.mono fun v H1 h1 => h1.mono fun v1 H2 ⟨a, fs, H3, e, U, hl, hp⟩ => ⟨a, 94, fs, H3, e, U, hl, fun w => by kernel_rfl, fun w => by kernel_rfl, h5, hd94, hp⟩) hs
theorem OpCall_join_own {sep : Str} {ls : List Str} (hm : (a, AO.list (ls.map AV.str)) ∈ H) (hok : (ls.map (·.length)).sum + ls.length * sep.length ≤ 16777216) (h : P (.str (Str.join sep ls)) H) : OpCall c (.builtin "str.join") [.str sep, .ref a] loc H P := fun T s vs' R hA => by
  obtain ⟨_, _, rfl, m1, m2⟩ := hA.two
  ·   obtain ⟨t, rfl⟩ := R.isStr m1
      obtain rfl := R.isRef m2
      obtain ⟨N, vs, n, ho, hv⟩ := R.ownList hm
      refine join_list (ys := ls) ⟨_, ho, rfl, n, rfl⟩ (by simpa using hv.strs) hok fun t' k' => ⟨_, H, ?_, h⟩
      rw [tjoin]
      exact R.tok.str _ _
end
set_option maxHeartbeats 4000000 in
theorem finit_spec {k : Nat} {H0 : Own} {P : AV → Own → Prop} {mk : Addr} {sc : Str} {mx hl : Int} (h : ∀ ln ac, P .none (FmtH mk ln ac sc mx hl [] [] H0)) :
    AF (k + 3) (.ref 35) [.ref mk, .int hl, .int mx, .str "", .str sc] ((mk, .inst 94 []) :: H0) P := by
  refine AF_def (ds := []) ["self", "headerlen", "maxlen", "continuation_ws", "splitchars"] [] [("self", some (.ref mk)), ("headerlen", some (.int hl)), ("maxlen", some (.int mx)), ("continuation_ws", some (.str "")), ("splitchars", some (.str sc))] (fun w => by rfl) (fun w => by rfl) rfl (by decide) ?_ (by decide +kernel) ?_ (by decide)
  · intro w s args' hl hk
    obtain ⟨x, y, z, u, v, rfl⟩ := ln5 hl
    exact ⟨[], BindsTo.of_eq rfl, fun _ _ => .nil⟩
  · intro w os base outer A₀ A h₀ L X Y c G
    refine ASs_cons (AS_set94 G (fun w => by kernel_rfl) ?_)
    refine AE_local (by assumption) (mi 2 rfl) ?_; refine AE_local (by assumption) (.head _) ?_
    refine ⟨mk, _, _, rfl, At.head, by decide, ?_⟩
    refine ASs_cons (AS_set94 G (fun w => by kernel_rfl) ?_)
    refine AE_local (by assumption) (mi 3 rfl) ?_; refine AE_local (by assumption) (.head _) ?_
    refine ⟨mk, _, _, rfl, At.head, by simp [fput], ?_⟩
    refine ASs_cons (AS_set94 G (fun w => by kernel_rfl) (AE_callb "len" ?_))
    with_reducible refine AE_builtin (by assumption) (fun _ => by with_unfolding_all rfl) (by with_unfolding_all rfl) (by decide) (by with_unfolding_all rfl) ?_
    refine ⟨rfl, ?_⟩
    refine AEs_cons ?_; refine AE_local (by assumption) (mi 3 rfl) ?_; refine AEs_nil ?_
    refine OpCall_len_str (by decide) ?_
    refine AE_local (by assumption) (.head _) ?_
    refine ⟨mk, _, _, rfl, At.head, by simp [fput], ?_⟩
    refine ASs_cons (AS_set94 G (fun w => by kernel_rfl) ?_)
    refine AE_local (by assumption) (mi 4 rfl) ?_; refine AE_local (by assumption) (.head _) ?_
    refine ⟨mk, _, _, rfl, At.head, by simp [fput], ?_⟩
    refine ASs_cons (AS_set94 G (fun w => by kernel_rfl) (AE_list ?_))
    refine AEs_nil ?_
    refine ⟨by decide, fun ln => ?_⟩
    refine AE_local (by assumption) (.head _) ?_
    refine ⟨mk, _, _, rfl, At.tail At.head, by simp [fput], ?_⟩
    refine ASs_cons (AS_set94 G (fun w => by kernel_rfl) (AE_callf 178 G (fun w => by kernel_rfl) ?_))
    refine AE_global (av := .ref 178) G (fun w => by rfl) (by rfl) (fun B N => .ref _) ?_
    refine ⟨rfl, ?_⟩
    refine AEs_cons ?_; refine AE_local (by assumption) (mi 1 rfl) ?_; refine AEs_nil ?_
    refine OpCall_newacc (k := k + 1) G fun ac => init_spec (k := k) ⟨rfl, ?_⟩
    refine AE_local (by assumption) (.head _) ?_
    refine ⟨mk, _, _, rfl, At.tail (At.tail At.head), by simp [fput], ASs_nil ?_⟩
    simpa [fput, FmtH, FmtF] using h ln ac
theorem fstr_spec {k : Nat} {H0 : Own} {P : AV → Own → Prop} {mk ln ac : Addr} {sc sep : Str} {mx ini : Int} {parts : List (Str × Str)} {lines : List Str} (TB : Tabs H0) (B : FBound ini parts lines) (hb : ((nlLines ini parts lines).map (·.length)).sum + (nlLines ini parts lines).length * sep.length ≤ 16777216)
    (h : P (.str (Str.join sep (nlLines ini parts lines))) (FmtH mk ln ac sc mx 0 [] (nlLines ini parts lines) H0)) :
    AF (k + 6) (.ref 42) [.ref mk, .str sep] (FmtH mk ln ac sc mx ini parts lines H0) P := by
  refine AF_def (ds := []) ["self", "linesep"] [] [("self", some (.ref mk)), ("linesep", some (.str sep))] (fun w => by rfl) (fun w => by rfl) rfl (by decide) ?_ (by decide +kernel) ?_ (by decide)
  · intro w s args' hl hk
    obtain ⟨x, y, rfl⟩ := ln2 hl
    exact ⟨[], BindsTo.of_eq rfl, fun _ _ => .nil⟩
  · intro w os base outer A₀ A h₀ L X Y c G
    refine ASs_cons (AS_expr (AE_methf0 56 G (fun w => by kernel_rfl) ?_))
    refine AE_local (by assumption) (.head _) ?_
    refine ⟨OpMeth_inst G (C := 94) (fs := FmtF "" sc mx ln ac) (mi 2 rfl) (fun w => by kernel_rfl) (fun w => by kernel_rfl) (fun w => by kernel_rfl) (by simp [fget]), OpCall_of G (newline_spec (k := k) TB B ?_)⟩
    refine ASs_cons (AS_return (AE_methb "str.join" ?_))
    refine AE_local (by assumption) (mi 1 rfl) ?_
    refine ⟨OpMeth_str fun t => GM.join, ?_⟩
    refine AEs_cons ?_
    refine AE_fmt (u := .ref ln) (cw := "") a_lines G (mi 2 rfl) (by simp [fget]) rfl ?_ (by refine AE_local (by assumption) (.head _) ?_; exact ⟨rfl, rfl⟩)
    refine AEs_nil ?_
    exact OpCall_join_own (mi 1 rfl) hb h
end
section
theorem fget_cur {cw sc : Str} {mx : Int} {ln ac : Addr} : fget "_current_line" (FmtF cw sc mx ln ac) = some (.ref ac) := by simp [fget]
theorem fget_lines {cw sc : Str} {mx : Int} {ln ac : Addr} : fget "_lines" (FmtF cw sc mx ln ac) = some (.ref ln) := by simp [fget]
noncomputable def fstEq (ch f : Str) : Bool := decide (f.length ≠ 0) && decide (Txt.item f 0 = ch)
noncomputable def lastEq (ch g : Str) : Bool := decide (g.length ≠ 0) && decide (Txt.item g (-1) = ch)
noncomputable def hit (ch : Str) (parts : List (Str × Str)) (i : Nat) : Bool := match parts[i]?, parts[i - 1]? with
  | some p, some q => (Txt.isspace ch && fstEq ch p.1) || lastEq ch q.2
  | _, _ => false
noncomputable def downs (n : Nat) : List Nat := (List.range (n - 1)).map fun t => n - 1 - t
noncomputable def inner (parts : List (Str × Str)) (ch : Str) : Option Nat := (downs parts.length).find? (hit ch parts)
noncomputable def sgn (sc : Str) : List Str := sc.cps.toList.map fun n => ⟨#[n]⟩
noncomputable def split (sc : Str) (parts : List (Str × Str)) : Option Nat := (sgn sc).findSome? (inner parts)
theorem charAt0 {f : Str} (h : f.length ≠ 0) : (Txt.charAt f 0).isSome = true := by
  unfold Txt.charAt
  have e : seqIndex? 0 f.length = some 0 := by unfold seqIndex?; simp; omega
  rw [e]
  have : 0 < f.cps.size := Nat.pos_of_ne_zero h
  simp [this]
theorem charAtL {f : Str} (h : f.length ≠ 0) : (Txt.charAt f (-1)).isSome = true := by
  unfold Txt.charAt
  have hp : 0 < f.cps.size := Nat.pos_of_ne_zero h
  have e : seqIndex? (-1) f.length = some (f.length - 1) := by unfold seqIndex?; simp; omega
  rw [e]
  show (f.cps[f.length - 1]?).isSome = true
  have : f.length - 1 < f.cps.size := by show f.cps.size - 1 < f.cps.size; omega
  rw [Array.getElem?_eq_getElem this]; rfl
theorem mem_small {parts : List (Str × Str)} {i : Nat} {p : Str × Str} (hp : parts[i]? = some p) (hb : accLen parts ≤ 400000) : p.1.length < 2 ^ 40 ∧ p.2.length < 2 ^ 40 := by
  have := mem_len hp
  omega
theorem findSome_at {α β : Type} {f : α → Option β} {l : List α} {j : Nat} {x : α} {r : β} (h1 : (l.take j).findSome? f = none) (h2 : l[j]? = some x) (h3 : f x = some r) : l.findSome? f = some r := by
  have hj : j < l.length := (List.getElem?_eq_some_iff.mp h2).1
  have e : l = l.take j ++ x :: l.drop (j + 1) := by
    have : l[j] = x := (List.getElem?_eq_some_iff.mp h2).2
    rw [← this, List.getElem_cons_drop, List.take_append_drop]
  rw [e, List.findSome?_append, h1]
  simp [h3]
theorem findSome_step {α β : Type} {f : α → Option β} {l : List α} {j : Nat} {x : α} (h1 : (l.take j).findSome? f = none) (h2 : l[j]? = some x) (h3 : f x = none) : (l.take (j + 1)).findSome? f = none := by
  rw [List.take_add_one, h2, List.findSome?_append, h1]
  simp [h3]
theorem find_at {α : Type} {f : α → Bool} {l : List α} {j : Nat} {x : α} (h1 : (l.take j).find? f = none) (h2 : l[j]? = some x) (h3 : f x = true) : l.find? f = some x := by
  have hj : j < l.length := (List.getElem?_eq_some_iff.mp h2).1
  have e : l = l.take j ++ x :: l.drop (j + 1) := by
    have : l[j] = x := (List.getElem?_eq_some_iff.mp h2).2
    rw [← this, List.getElem_cons_drop, List.take_append_drop]
  rw [e, List.find?_append, h1]
  simp [h3]
theorem find_step {α : Type} {f : α → Bool} {l : List α} {j : Nat} {x : α} (h1 : (l.take j).find? f = none) (h2 : l[j]? = some x) (h3 : f x = false) : (l.take (j + 1)).find? f = none := by
  rw [List.take_add_one, h2, List.find?_append, h1]
  simp [h3]
theorem noPylong (x : Int) : Builtin.divisionGoesByPylong x (-1) = false := by rfl
noncomputable abbrev kCut (Q : Loc → Own → Prop) (P : SP) : SP := fun f l H1 => match f with | .next => Q l H1 | f => P f l H1
theorem ASs_cut2 {c : Cx} {env : Env} {st : Stmt} {rest : List Stmt} {loc : Loc} {H : Own} {P : SP} (Q : Loc → Own → Prop) (h : AS c env st loc H (kCut Q P)) (kk : ∀ l H1, Q l H1 → ASs c env rest l H1 P) : ASs c env (st :: rest) loc H P :=
  ASs_cons fun T s R => thenF (h T s R) fun f' s1 f l H1 T1 hf R1 hq => ⟨f, l, H1, T1, hf, R1, by
    cases f with
    | next => exact kk l H1 hq
    | brk => exact hq
    | cont => exact hq
    | ret v => exact hq⟩
structure FSt where
  ini : Int
  parts : List (Str × Str)
  lines : List Str
noncomputable def chunk (mx : Int) (sc : Str) (st : FSt) (p : Str × Str) : FSt :=
  if mx < st.ini + accLen (st.parts ++ [p]) then
    match split sc (st.parts ++ [p]) with
    | some i => ⟨0, (st.parts ++ [p]).drop i, st.lines ++ [accStr ((st.parts ++ [p]).take i)]⟩
    | none => if 0 < st.ini then ⟨0, [(if p.1.length = 0 then (" " : Str) else p.1, p.2)], nlLines st.ini st.parts st.lines⟩ else ⟨st.ini, st.parts ++ [p], st.lines⟩
  else ⟨st.ini, st.parts ++ [p], st.lines⟩
noncomputable abbrev FmtS (mk ln ac : Addr) (sc : Str) (mx : Int) (st : FSt) (H0 : Own) : Own := FmtH mk ln ac sc mx st.ini st.parts st.lines H0
set_option maxHeartbeats 8000000 in
theorem chunk_spec {k : Nat} {H0 : Own} {P : AV → Own → Prop} {mk ln ac : Addr} {sc : Str} {mx : Int} {st : FSt} {p : Str × Str} (TB : Tabs H0) (B : FBound st.ini st.parts st.lines) (B2 : accLen (st.parts ++ [p]) + (st.parts ++ [p]).length ≤ 399990) (hsc : sc.length ≤ 1000) (h : P .none (FmtS mk ln ac sc mx (chunk mx sc st p) H0)) :
    AF (k + 6) (.ref 91) [.ref mk, .str p.1, .str p.2] (FmtS mk ln ac sc mx st H0) P := by
  obtain ⟨ini, parts, lines⟩ := st
  show AF (k + 6) (.ref 91) [.ref mk, .str p.1, .str p.2] (FmtH mk ln ac sc mx ini parts lines H0) P
  refine AF_def (ds := []) ["self", "fws", "string"] ["ch", "i", "prevpart", "part", "remainder"] [("self", some (.ref mk)), ("fws", some (.str p.1)), ("string", some (.str p.2)), ("ch", none), ("i", none), ("prevpart", none), ("part", none), ("remainder", none)] (fun w => by rfl) (fun w => by rfl) rfl (by decide) ?_ (by decide +kernel) ?_ (by decide)
  · intro w s args' hl hk
    obtain ⟨x, y, z, rfl⟩ := ln3 hl
    exact ⟨[], BindsTo.of_eq rfl, fun _ _ => .nil⟩
  · intro w os base outer A₀ A h₀ L X Y c G
    have hi0 := B.i0
    have hi1 := B.i1
    have hpb := B.p
    have hll := B.l
    dsimp only at B hi0 hi1 hpb hll B2 h ⊢
    have hn : (parts ++ [p]).length = parts.length + 1 := by simp
    refine ASs_cons (AS_expr (AE_methf 122 G (fun w => by kernel_rfl) ?_))
    refine AE_fmt (cw := "") a_cur (by assumption) (mi 2 rfl) fget_cur rfl ?_ (by refine AE_local (by assumption) (.head _) ?_; exact ⟨rfl, rfl⟩)
    refine ⟨OpMeth_accf G (.head _) (by decide) (fun w => by kernel_rfl) (fun w => by kernel_rfl), ?_⟩
    refine AEs_cons ?_; refine AE_local (by assumption) (mi 1 rfl) ?_; refine AEs_cons ?_; refine AE_local (by assumption) (mi 2 rfl) ?_; refine AEs_nil ?_
    refine OpCall_of G (push_spec (k := k + 4) (p := p) (by with_reducible repeat first | exact At.head | apply At.tail) (by omega) ?_)
    refine ASs_cons (AS_if (AB_compare (AE_callb "len" ?_)))
    with_reducible refine AE_builtin (by assumption) (fun _ => by with_unfolding_all rfl) (by with_unfolding_all rfl) (by decide) (by with_unfolding_all rfl) ?_
    refine ⟨rfl, ?_⟩
    refine AEs_cons ?_
    refine AE_fmt (cw := "") a_cur (by assumption) (mi 2 rfl) fget_cur rfl ?_ (by refine AE_local (by assumption) (.head _) ?_; exact ⟨rfl, rfl⟩)
    refine AEs_nil ?_
    refine OpCall_len_acc (k := k + 3) G (.head _) TB.cons.cons.cons.t1 hi0 (by omega) (by omega) ?_
    refine AE_fmt (u := .int mx) (cw := "") a_maxlen G (mi 2 rfl) (by simp [fget]) rfl ?_ (by refine AE_local (by assumption) (.head _) ?_; exact ⟨rfl, rfl⟩)
    refine OpC_gt ⟨_, rfl, fun hov => ?_, fun hov => ASs_nil (ASs_nil ?_)⟩
    · have hov : mx < ini + ↑(accLen (parts ++ [p])) := by simpa using hov
      refine ASs_cut2 (fun l H1 => ∃ f cv i pv, l = [("self", some (.ref mk)), ("fws", some (.str f)), ("string", some (.str p.2)), ("ch", cv), ("i", some (.int (i : Nat))), ("prevpart", pv), ("part", none), ("remainder", none)] ∧ H1 = FmtH mk ln ac sc mx ini (parts ++ [p]) lines H0 ∧ split sc (parts ++ [p]) = some i ∧ i ≤ parts.length) (AS_for G ?_) ?_
      refine AE_fmt (u := .str sc) (cw := "") a_split G (mi 2 rfl) (by simp [fget]) rfl ?_ (by refine AE_local (by assumption) (.head _) ?_; exact ⟨rfl, rfl⟩)
      refine ⟨_, It_str, fun j l H1 => ∃ f cv iv pv, l = [("self", some (.ref mk)), ("fws", some (.str f)), ("string", some (.str p.2)), ("ch", cv), ("i", iv), ("prevpart", pv), ("part", none), ("remainder", none)] ∧ H1 = FmtH mk ln ac sc mx ini (parts ++ [p]) lines H0 ∧ ((sgn sc).take j).findSome? (inner (parts ++ [p])) = none, ?_, ?_, ?_⟩
      · exact ⟨p.1, none, none, none, rfl, rfl, rfl⟩
      · rintro X Y j x l H1 hx ⟨f, cv, iv, pv, rfl, rfl, hnone⟩
        have G' := G.wX (X := X) (Y := Y)
        obtain ⟨ch, rfl, hch⟩ : ∃ ch, x = .str ch ∧ (sgn sc)[j]? = some ch := by
          simp only [signs, List.getElem?_map, Option.map_eq_some_iff] at hx
          obtain ⟨n, h1, h2⟩ := hx
          exact ⟨⟨#[n]⟩, h2.symm, by simp [sgn, h1]⟩
        refine As1_name ?_
        (with_reducible refine St1_local (by assumption) (by with_reducible repeat first | exact SetL.head | apply SetL.tail) ?_)
        refine ASs_cut2 (fun l H1 => ∃ f i pv, l = [("self", some (.ref mk)), ("fws", some (.str f)), ("string", some (.str p.2)), ("ch", some (.str ch)), ("i", some (.int (i : Nat))), ("prevpart", pv), ("part", none), ("remainder", none)] ∧ H1 = FmtH mk ln ac sc mx ini (parts ++ [p]) lines H0 ∧ inner (parts ++ [p]) ch = some i ∧ i ≤ parts.length) (AS_for G' (AE_callt "range" ?_)) ?_
        with_reducible refine AE_builtin (by assumption) (fun _ => by with_unfolding_all rfl) (by with_unfolding_all rfl) (by decide) (by with_unfolding_all rfl) ?_
        refine ⟨rfl, AEs_cons (AE_binop (AE_methf0 175 G' (fun w => by kernel_rfl) ?_))⟩
        refine AE_fmt (cw := "") a_cur (by assumption) (mi 2 rfl) fget_cur rfl ?_ (by refine AE_local (by assumption) (.head _) ?_; exact ⟨rfl, rfl⟩)
        refine ⟨OpMeth_accf G' (.head _) (by decide) (fun w => by kernel_rfl) (fun w => by kernel_rfl), OpCall_of G' (count_spec (k := k + 4) (.head _) ?_)⟩
        refine AE_int ?_
        refine OpB_sub ?_
        refine AEs_cons ?_; refine AE_int ?_; refine AEs_cons ?_
        refine AE_unary ?_
        refine AE_int ?_
        refine OpU_neg ?_
        refine AEs_nil ?_
        have hnl : ((parts ++ [p]).length : Int) - 1 = ((parts.length : Nat) : Int) := by rw [hn]; omega
        rw [hnl]
        refine OpCall_range3 (by decide) (noPylong _) ?_
        refine ⟨_, It_down (by omega) (by omega) (by decide) (by decide), fun t l H1 => ∃ f iv pv, l = [("self", some (.ref mk)), ("fws", some (.str f)), ("string", some (.str p.2)), ("ch", some (.str ch)), ("i", iv), ("prevpart", pv), ("part", none), ("remainder", none)] ∧ H1 = FmtH mk ln ac sc mx ini (parts ++ [p]) lines H0 ∧ ((downs (parts ++ [p]).length).take t).find? (hit ch (parts ++ [p])) = none, ⟨f, iv, pv, rfl, rfl, by simp⟩, ?_, ?_⟩
        · rintro X2 Y2 t x l H1 hx ⟨f, iv, pv, rfl, rfl, hno⟩
          have G2 := G'.wX (X := X2) (Y := Y2)
          have ht : t < parts.length := by
            have := (List.getElem?_eq_some_iff.mp hx).1
            simpa using this
          have ex : x = .int ((parts.length - t : Nat) : Int) := by
            rw [List.getElem?_map, List.getElem?_range (by simpa using ht)] at hx
            simp at hx
            rw [← hx]
            congr 1
            omega
          subst ex
          have hdn : (downs (parts ++ [p]).length)[t]? = some (parts.length - t) := by
            rw [hn]
            simp [downs, ht]
          generalize hi : parts.length - t = i at hdn
          have hi1' : 1 ≤ i := by omega
          have hi2' : i < (parts ++ [p]).length := by omega
          obtain ⟨pi, hpi⟩ : ∃ pi, (parts ++ [p])[i]? = some pi := ⟨_, List.getElem?_eq_getElem hi2'⟩
          obtain ⟨qi, hqi⟩ : ∃ qi, (parts ++ [p])[i - 1]? = some qi := ⟨_, List.getElem?_eq_getElem (by omega)⟩
          obtain ⟨hs1, hs2⟩ := mem_small hpi (by omega)
          obtain ⟨hs3, hs4⟩ := mem_small hqi (by omega)
          have hhit : hit ch (parts ++ [p]) i = ((Txt.isspace ch && fstEq ch pi.1) || lastEq ch qi.2) := by unfold hit; rw [hpi, hqi]
          refine As1_name ?_
          (with_reducible refine St1_local (by assumption) (by with_reducible repeat first | exact SetL.head | apply SetL.tail) ?_)
          refine ASs_cut2 (fun l H1 => ∃ f, l = [("self", some (.ref mk)), ("fws", some (.str f)), ("string", some (.str p.2)), ("ch", some (.str ch)), ("i", some (.int i)), ("prevpart", pv), ("part", none), ("remainder", none)] ∧ H1 = FmtH mk ln ac sc mx ini (parts ++ [p]) lines H0 ∧ (Txt.isspace ch && fstEq ch pi.1) = false) (AS_if (AB_plain (AE_methb0 "str.isspace" ?_))) ?_
          · refine AE_local (by assumption) (mi 3 rfl) ?_
            refine ⟨OpMeth_str fun t => GM.isspace, OpCall_isspace (OpT_bool ⟨fun hsp => ?_, fun hsp => ASs_nil ⟨_, rfl, rfl, by simp [hsp]⟩⟩)⟩
            refine ASs_cons (AS_assign ?_)
            refine AE_subg ?_; refine AE_subg ?_
            refine AE_fmt (cw := "") a_cur (by assumption) (mi 2 rfl) fget_cur rfl ?_ (by refine AE_local (by assumption) (.head _) ?_; exact ⟨rfl, rfl⟩)
            refine AE_local (by assumption) (mi 4 rfl) ?_
            refine ⟨NoPy_acc G2 (.head _), OpG_acc (p := pi) G2 (.head _) (by omega) (by omega) (by rw [Int.toNat_natCast]; exact hpi) ?_⟩
            refine AE_int ?_
            refine ⟨NoPy_tup, OpG_tup (j := 0) (by decide) (by decide) (by rfl) rfl ?_⟩
            (with_reducible refine St1_local (by assumption) (by with_reducible repeat first | exact SetL.head | apply SetL.tail) ?_)
            refine ASs_cons (AS_if (AB_and (AB_plain ?_)))
            refine AE_local (by assumption) (mi 1 rfl) ?_
            refine OpT_str (by omega) ⟨fun hne => AB_and (AB_compare ?_), fun hne => ⟨fun hh => absurd hh (by decide), fun _ => ASs_nil (ASs_nil ⟨_, rfl, rfl, by simp [fstEq]; intro _ h2; simp at hne; exact absurd hne h2⟩)⟩⟩
            refine AE_subg ?_; refine AE_local (by assumption) (mi 1 rfl) ?_; refine AE_int ?_
            refine ⟨NoPy_str, OpG_str (by decide) (charAt0 (by simpa using hne)) ?_⟩
            refine AE_local (by assumption) (mi 3 rfl) ?_
            refine OpC_seq ⟨_, rfl, fun heq => AB_and_nil ⟨fun _ => ?_, fun hh => absurd hh (by decide)⟩, fun heq => ⟨fun hh => absurd hh (by decide), fun _ => ASs_nil (ASs_nil ⟨_, rfl, rfl, by simp [fstEq]; intro _ _; simpa using heq⟩)⟩⟩
            have hh : hit ch (parts ++ [p]) i = true := by
              rw [hhit]; simp [hsp, fstEq]
              left; exact ⟨by simpa using hne, by simpa using heq⟩
            exact ASs_cons (AS_break ⟨_, i, _, rfl, rfl, find_at hno hdn hh, by omega⟩)
          · rintro l H1 ⟨f, rfl, rfl, hnf⟩
            refine ASs_cons (AS_assign ?_)
            refine AE_subg ?_; refine AE_subg ?_
            refine AE_fmt (cw := "") a_cur (by assumption) (mi 2 rfl) fget_cur rfl ?_ (by refine AE_local (by assumption) (.head _) ?_; exact ⟨rfl, rfl⟩)
            refine AE_binop ?_; refine AE_local (by assumption) (mi 4 rfl) ?_; refine AE_int ?_
            refine OpB_sub ?_
            refine ⟨NoPy_acc G2 (.head _), OpG_acc (p := qi) G2 (.head _) (by omega) (by omega) (by rw [show ((i : Int) - 1).toNat = i - 1 by omega]; exact hqi) ?_⟩
            refine AE_int ?_
            refine ⟨NoPy_tup, OpG_tup (j := 1) (by decide) (by decide) (by rfl) rfl ?_⟩
            (with_reducible refine St1_local (by assumption) (by with_reducible repeat first | exact SetL.head | apply SetL.tail) ?_)
            have nohit : lastEq ch qi.2 = false → hit ch (parts ++ [p]) i = false := fun e => by rw [hhit, hnf, e]; rfl
            refine ASs_cons (AS_if (AB_and (AB_plain ?_)))
            refine AE_local (by assumption) (mi 5 rfl) ?_
            refine OpT_str (by omega) ⟨fun hne => AB_and (AB_compare ?_), fun hne => ⟨fun hh => absurd hh (by decide), fun _ => ASs_nil (ASs_nil ⟨_, _, _, rfl, rfl, find_step hno hdn (nohit (by simp [lastEq]; intro h2; simp at hne; exact absurd hne h2))⟩)⟩⟩
            refine AE_subg ?_; refine AE_local (by assumption) (mi 5 rfl) ?_
            refine AE_unary ?_
            refine AE_int ?_
            refine OpU_neg ⟨NoPy_str, OpG_str (by decide) (charAtL (by simpa using hne)) ?_⟩
            refine AE_local (by assumption) (mi 3 rfl) ?_
            refine OpC_seq ⟨_, rfl, fun heq => AB_and_nil ⟨fun _ => ?_, fun hh => absurd hh (by decide)⟩, fun heq => ⟨fun hh => absurd hh (by decide), fun _ => ASs_nil (ASs_nil ⟨_, _, _, rfl, rfl, find_step hno hdn (nohit (by simp [lastEq]; intro _; simpa using heq))⟩)⟩⟩
            have hh : hit ch (parts ++ [p]) i = true := by
              rw [hhit]; simp [lastEq]
              right; exact ⟨by simpa using hne, by simpa using heq⟩
            exact ASs_cons (AS_break ⟨_, i, _, rfl, rfl, find_at hno hdn hh, by omega⟩)
        · rintro l H1 ⟨f, iv, pv, rfl, rfl, hno⟩
          refine ASs_cons (AS_continue ⟨_, _, _, _, rfl, rfl, findSome_step hnone hch ?_⟩)
          unfold inner
          rw [List.take_of_length_le (by simp [downs])] at hno
          exact hno
        · rintro l H1 ⟨f, i, pv, rfl, rfl, hin, hle⟩
          exact ASs_cons (AS_break ⟨_, _, i, _, rfl, rfl, findSome_at hnone hch hin, hle⟩)
      · rintro l H1 ⟨f, cv, iv, pv, rfl, rfl, hno⟩
        have hsp : split sc (parts ++ [p]) = none := by
          rw [List.take_of_length_le (by simp [sgn, signs])] at hno
          exact hno
        refine ASs_cons (AS_unpack2 G (AE_methf0 138 G (fun w => by kernel_rfl) ?_))
        refine AE_fmt (cw := "") a_cur (by assumption) (mi 2 rfl) fget_cur rfl ?_ (by refine AE_local (by assumption) (.head _) ?_; exact ⟨rfl, rfl⟩)
        refine ⟨OpMeth_accf G (.head _) (by decide) (fun w => by kernel_rfl) (fun w => by kernel_rfl), OpCall_of G (pop_spec (k := k + 3) (by with_reducible repeat first | exact At.head | apply At.tail) (by omega) ⟨_, _, rfl, ?_⟩)⟩
        (with_reducible refine St1_local (by assumption) (by with_reducible repeat first | exact SetL.head | apply SetL.tail) ?_)
        (with_reducible refine St1_local (by assumption) (by with_reducible repeat first | exact SetL.head | apply SetL.tail) ?_)
        refine ASs_cut2 (fun l H1 => ∃ f', l = [("self", some (.ref mk)), ("fws", some (.str f')), ("string", some (.str p.2)), ("ch", cv), ("i", iv), ("prevpart", pv), ("part", some (.str p.2)), ("remainder", none)] ∧
          ((0 < ini ∧ f' = (if p.1.length = 0 then (" " : Str) else p.1) ∧ H1 = FmtH mk ln ac sc mx 0 [] (nlLines ini parts lines) H0) ∨ (¬ 0 < ini ∧ f' = p.1 ∧ H1 = FmtH mk ln ac sc mx ini parts lines H0))) (AS_if (AB_compare (AE_accini G ?_))) ?_
        · refine AE_fmt (cw := "") a_cur (by assumption) (mi 2 rfl) fget_cur rfl ?_ (by refine AE_local (by assumption) (.head _) ?_; exact ⟨rfl, rfl⟩)
          refine ⟨ac, ini, _, rfl, (.head _), ?_⟩
          refine AE_int ?_
          refine OpC_gt ⟨_, rfl, fun hb => ?_, fun hb => ASs_nil ⟨_, rfl, .inr ⟨by simpa using hb, rfl, rfl⟩⟩⟩
          have hb : 0 < ini := by simpa using hb
          refine ASs_cons (AS_expr (AE_methf0 56 G (fun w => by kernel_rfl) ?_))
          refine AE_local (by assumption) (.head _) ?_
          refine ⟨OpMeth_inst G (C := 94) (fs := FmtF "" sc mx ln ac) (mi 2 rfl) (fun w => by kernel_rfl) (fun w => by kernel_rfl) (fun w => by kernel_rfl) (by simp [fget]), OpCall_of G (newline_spec (k := k) TB B ?_)⟩
          refine ASs_cons (AS_if (AB_not (AB_plain ?_)))
          refine AE_local (by assumption) (mi 1 rfl) ?_
          have hpl := mem_small (parts := parts ++ [p]) (i := parts.length) (p := p) (by simp) (by omega)
          refine OpT_str (by omega) ⟨fun he => ?_, fun he => ASs_nil (ASs_nil ⟨_, rfl, .inl ⟨hb, ?_, rfl⟩⟩)⟩
          · refine ASs_cons (AS_assign ?_)
            refine AE_str ?_
            (with_reducible refine St1_local (by assumption) (by with_reducible repeat first | exact SetL.head | apply SetL.tail) ?_)
            refine ASs_nil (ASs_nil ⟨_, rfl, .inl ⟨hb, ?_, rfl⟩⟩)
            rw [if_pos (by simpa using he)]
          · rw [if_neg (by simpa using he)]
        · rintro l H1 ⟨f', rfl, hH⟩
          refine ASs_cons (AS_expr (AE_methf 122 G (fun w => by kernel_rfl) ?_))
          have hmk : (mk, AO.inst 94 (FmtF "" sc mx ln ac)) ∈ H1 ∧ ∃ i pp, (ac, AO.acc i pp) ∈ H1 := by
            rcases hH with ⟨_, _, rfl⟩ | ⟨_, _, rfl⟩ <;> exact ⟨by simp, _, _, List.mem_cons_self⟩
          obtain ⟨hmk, i', pp, hpp⟩ := hmk
          refine AE_fmt (cw := "") a_cur (by assumption) (by assumption) fget_cur rfl ?_ (by refine AE_local (by assumption) (.head _) ?_; exact ⟨rfl, rfl⟩)
          refine ⟨OpMeth_accf G hpp (by decide) (fun w => by kernel_rfl) (fun w => by kernel_rfl), ?_⟩
          refine AEs_cons ?_; refine AE_local (by assumption) (mi 1 rfl) ?_; refine AEs_cons ?_; refine AE_local (by assumption) (mi 6 rfl) ?_; refine AEs_nil ?_
          refine OpCall_of G ?_
          rcases hH with ⟨hb, rfl, rfl⟩ | ⟨hb, rfl, rfl⟩
          · refine push_spec (k := k + 4) (p := (if p.1.length = 0 then (" " : Str) else p.1, p.2)) (l := []) At.head (by decide) (ASs_cons (AS_return0 ?_))
            simpa [chunk, hov, hsp, hb] using h
          · refine push_spec (k := k + 4) (p := p) (by with_reducible repeat first | exact At.head | apply At.tail) (by omega) (ASs_cons (AS_return0 ?_))
            simpa [chunk, hov, hsp, hb] using h
      · rintro l H1 ⟨f, cv, i, pv, rfl, rfl, hsp, hle⟩
        have htk : accLen ((parts ++ [p]).take i) + ((parts ++ [p]).take i).length ≤ 400000 := by
          have e : accLen (parts ++ [p]) = accLen ((parts ++ [p]).take i) + accLen ((parts ++ [p]).drop i) := by
            show _ = (List.map _ _).sum + (List.map _ _).sum
            rw [← List.sum_append, ← List.map_append, List.take_append_drop]
          rw [List.length_take]
          omega
        refine ASs_cons (AS_assign (AE_methf 130 G (fun w => by kernel_rfl) ?_))
        refine AE_fmt (cw := "") a_cur (by assumption) (mi 2 rfl) fget_cur rfl ?_ (by refine AE_local (by assumption) (.head _) ?_; exact ⟨rfl, rfl⟩)
        refine ⟨OpMeth_accf G (.head _) (by decide) (fun w => by kernel_rfl) (fun w => by kernel_rfl), ?_⟩
        refine AEs_cons ?_; refine AE_local (by assumption) (mi 4 rfl) ?_; refine AEs_nil ?_
        refine OpCall_of G (popfrom_spec (k := k + 4) (j := i) (l := parts ++ [p]) (ini := ini) (by omega) (by with_reducible repeat first | exact At.head | apply At.tail) (by omega) ?_)
        (with_reducible refine St1_local (by assumption) (by with_reducible repeat first | exact SetL.head | apply SetL.tail) ?_)
        refine ASs_cons (AS_expr (AE_methb "list.append" ?_))
        refine AE_fmt (cw := "") a_lines G (mi 2 rfl) fget_lines rfl ?_ (by refine AE_local (by assumption) (.head _) ?_; exact ⟨rfl, rfl⟩)
        refine ⟨OpMeth_append (l := lines.map AV.str) (mi 1 rfl), AEs_cons (AE_callt "str" ?_)⟩
        with_reducible refine AE_builtin (by assumption) (fun _ => by with_unfolding_all rfl) (by with_unfolding_all rfl) (by decide) (by with_unfolding_all rfl) ?_
        refine ⟨rfl, ?_⟩
        refine AEs_cons ?_
        refine AE_fmt (cw := "") a_cur (by assumption) (mi 2 rfl) fget_cur rfl ?_ (by refine AE_local (by assumption) (.head _) ?_; exact ⟨rfl, rfl⟩)
        refine AEs_nil ?_
        refine OpCall_str_acc (k := k + 3) G (.head _) TB.cons.cons.cons.t2 (by omega) ?_
        refine AEs_nil ?_
        refine OpCall_append (l := lines.map AV.str) (by with_reducible repeat first | exact At.head | apply At.tail) (by simp; omega) ?_
        refine ASs_cons (AS_expr (AE_methf 160 G (fun w => by kernel_rfl) ?_))
        refine AE_fmt (mk := mk) (ln := ln) (ac := ac) (sc := sc) (mx := mx) (cw := "") a_cur G (by simp) fget_cur rfl ?_ (by refine AE_local (by assumption) (.head _) ?_; exact ⟨rfl, rfl⟩)
        refine ⟨OpMeth_accf (a := ac) (ini := ini) G List.mem_cons_self (by decide) (fun w => by kernel_rfl) (fun w => by kernel_rfl), ?_⟩
        refine AEs_cons ?_; refine AE_local (by assumption) (mi 7 rfl) ?_; refine AEs_nil ?_
        refine OpCall_of G (reset1_spec (k := k + 4) (ys := (parts ++ [p]).drop i) At.head (by rw [List.length_take]; omega) (by rw [List.length_drop]; omega) (ASs_nil (ASs_nil ?_)))
        simpa [chunk, hov, hsp, FmtS, FmtH] using h
    · have hov : ¬ mx < ini + ↑(accLen (parts ++ [p])) := by simpa using hov
      simpa [chunk, hov] using h
end
section
section
variable {c : Cx} {env : Env} {loc loc' : Loc} {H H' : Own} {P : AV → Own → Prop} {T : Tmp} {s : Shared} {pos : Pos} {C : Addr} {l l' : Loc} {k : Nat} {v : AV}
structure FunEnv (env : Env) : Prop where
  k : env.scope.kind = .function
  g : env.globals = mainGlobals
  b : env.builtins = builtinsNs
theorem AE_ns {y : String} (hk0 : env.scope.kind = .function) (hC : env.locals = C) (hm : (C, AO.ns l) ∈ H) (hy : (y, some v) ∈ l) (hk : env.kindOf (Str.ofString y) = some .local) (h : P v H) (hd : (Str.ofString y == ("__debug__" : Str)) = false := by decide) : AE c env (.Name (Str.ofString y) pos) loc H P := fun T s R => by
  obtain ⟨N, es, m, R⟩ := R
  obtain ⟨e, ho, he⟩ := R.get hm
  obtain ⟨o, mC, rfl, hn, nd, hv⟩ := ho.ns_inv
  · obtain ⟨v', e1, hr⟩ := hv _ _ hy
    obtain ⟨es', ep, h1, h2, h3⟩ := hn
    have hns0 : s.heap.Ns C _ := ⟨_, es', ep, (R.nw _ (he _ (.head _))).1, h1, h2, h3⟩
    have hns : s.heap.Ns env.locals _ := hC ▸ hns0
    exact wpAny_Name (wpAny_loadName_local hk0 hk hns e1 ⟨v, H, (R.put hr).rep, h⟩) hd
theorem AE_cellE {y : String} {ca : Addr} (hk0 : env.scope.kind = .function) (hc : env.cells.lookup (Str.ofString y) = some ca) (hm : (ca, AO.cell (some v)) ∈ H) (hk : env.kindOf (Str.ofString y) = some .cell) (h : P v H) (hd : (Str.ofString y == ("__debug__" : Str)) = false := by decide) : AE c env (.Name (Str.ofString y) pos) loc H P := fun T s R => by
  obtain ⟨N, es, m, R⟩ := R
  obtain ⟨e, ho, he⟩ := R.get hm
  obtain ⟨ob, v1, rfl, hd0, hv⟩ := ho.cell_inv
  exact wpAny_Name (wpAny_loadName_cell hk0 hk hc ⟨_, (R.nw _ (he _ (.head _))).1, hd0⟩ ⟨v, H, (R.put hv).rep, h⟩) hd
theorem AE_builtinE {y : String} {bv : Value} (G : c.Good k) (E : FunEnv env) (hn : ∀ w, nsIn (KF w) mainGlobals (Str.ofString y) = some none) (hb : bootBuiltins (Str.ofString y) = some bv) (hne : Str.ofString y ≠ "__name__") (hk : env.kindOf (Str.ofString y) = some .globalImplicit) (h : P (.val bv) H)
    (hd : (Str.ofString y == ("__debug__" : Str)) = false := by decide) : AE c env (.Name (Str.ofString y) pos) loc H P := fun T s R => by
  obtain ⟨N, es, m, R⟩ := R
  obtain ⟨mg, mb, top⟩ := G.top
  exact Name_function_global E.k hk (loadGlobal_builtin (env := env) (E.g ▸ top.g.keeps R.F.keep) (mg_none_of G.K top.g (hn c.w)) (E.b ▸ top.b.keeps R.F.keep) ((top.builtins _ hne).trans hb) ⟨.val bv, H, (R.put (.val bv)).rep, h⟩) hd
theorem SetL.mem2 {x : String} {v : AV} {l l' : Loc} (h : SetL x v l l') (nd : (l.map (·.1)).Nodup) : (l'.map (·.1)).Nodup := by rw [h.names]; exact nd
theorem St1_ns {y : String} {Q : Loc → Own → Prop} (hC : env.locals = C) (hk : env.kindOf (Str.ofString y) = some .local) (hp : (env.scope.kind == .class || (env.scope.kind == .module && env.locals != env.globals)) = false) (U : At C (.ns l) (.ns l') H H') (S : SetL y v l l') (h : Q loc H') : St1 c env (Str.ofString y) v loc H Q := fun T s v' R m => by
  obtain ⟨N, es, mm, R⟩ := R
  have hv := R.tmp _ m
  obtain ⟨e, ho, kk⟩ := R.upd U
  obtain ⟨o, mC, rfl, hn, nd, hvs⟩ := ho.ns_inv
  · obtain ⟨Pr, Po, e1, q1, q2, fin⟩ := kk [] C o [] rfl
    have nw := R.nw
    rw [e1] at nw
    have z := nw (C, o) (by simp)
    obtain ⟨es', ep, h1, h2, h3⟩ := hn
    have hns0 : s.heap.Ns C mC := ⟨o, es', ep, z.1, h1, h2, h3⟩
    have hns : s.heap.Ns env.locals mC := hC ▸ hns0
    refine wpAny_storeName_local hk hns (fun h' hn' hs' => ?_) hp
    rw [hC] at hn' hs'
    obtain ⟨o', es2, ep2, ho', h1', h2', h3'⟩ := hn'
    refine ⟨loc, H', fin o' h' (s.toks + 1) (.ns ⟨es2, ep2, h1', h2', h3'⟩ (S.mem2 nd) fun x u hx => ?_) (R.F.change hs' z.2.1 z.2.2) (news_set nw q1 q2 hs' ho'), h⟩
    rcases S.mem nd x u hx with ⟨rfl, rfl⟩ | ⟨hne, hm⟩
    · exact ⟨v', by simp, hv⟩
    · obtain ⟨u', e1, e2⟩ := hvs x u hm
      exact ⟨u', by rw [if_neg fun e => hne (ofString_inj e)]; exact e1, e2⟩
theorem RepW.dropBut {N es : Led} {m : Str → Option Value} (R : RepW c loc ((C, .ns l) :: H) T s N es m) {h' : Heap} (hs : Heap.SameBut C s.heap h') : Rep c loc H T { s with heap := h' } := by
  obtain ⟨F, nw, nd, own, yk, tmp, lc, g, os⟩ := R
  obtain ⟨e, es1, rfl, ho, r⟩ := own.inv
  · obtain ⟨ob, mC, rfl, hn, nd2, hv⟩ := ho.ns_inv
    · have e1 : N ++ ([(C, ob)] ++ es1) = N ++ (C, ob) :: es1 := rfl
      rw [e1] at nd nw
      obtain ⟨n1, n2⟩ := nodup_split nd
      have z := nw (C, ob) (by simp)
      refine ⟨N, es1, m, F.change hs z.2.1 z.2.2, fun p hp => ?_, ?_, r, yk, tmp, lc, g, os⟩
      · rcases List.mem_append.mp hp with hp | hp
        · have := nw p (List.mem_append_left _ hp)
          exact ⟨(hs.2 _ (n1 p hp)).trans this.1, this.2⟩
        · have := nw p (List.mem_append_right _ (.tail _ hp))
          exact ⟨(hs.2 _ (n2 p hp)).trans this.1, this.2⟩
      · refine nd.sublist (List.Sublist.map _ (List.Sublist.append (List.Sublist.refl _) (List.sublist_cons_self _ _)))
end
noncomputable def ATs (c : Cx) (env : Env) (ifs : List Expr) (loc : Loc) (H : Own) (P : Bool → Own → Prop) : Prop := ∀ T s, Rep c loc H T s →
  wpAny (model pg c.w) c.A (forIn ifs true fun e r => if r = true then do let ok ← isTrue e env (eval e env); pure (ForInStep.yield ok) else pure (ForInStep.yield r)) (BOut c loc T P) EF s
theorem ATs_nil {c : Cx} {env : Env} {loc : Loc} {H : Own} {P : Bool → Own → Prop} (h : P true H) : ATs c env [] loc H P := fun T s R => wpAny_tests_nil ⟨H, R, h⟩
theorem ATs_one {c : Cx} {env : Env} {e : Expr} {loc : Loc} {H : Own} {P : Bool → Own → Prop} (h : AB c env e loc H P) : ATs c env [e] loc H P := fun T s R => wpAny_tests_one (h T s R)
theorem compLoop_any {prog : Program} {w : World} {A : Around} {R : Result → Shared → Prop} {elt target iter : Expr} {ifs : List Expr} {scope : Scope} {pos : Pos} {it acc : Value} {env : Env} (I : Nat → Shared → Prop)
    (turn : ∀ n s, I n s → wpAny (model prog w) A (pyNext it) (fun r s₁ => match r with
      | none => R (.ok .next) s₁
      | some v => wpAny (model prog w) A (letOwnedTupleGo target it v) (fun _ s₁' => wpAny (model prog w) A (assign target env v) (fun _ s₂ =>
          wpAny (model prog w) A (forIn ifs true fun c r => if r = true then do let ok ← isTrue c env (eval c env); pure (ForInStep.yield ok) else pure (ForInStep.yield r)) (fun ok s₃ =>
            if ok = true then wpAny (model prog w) A (eval elt env) (fun x s₄ =>
              wpAny (model prog w) A (call (.builtin "list.append") [acc, x]) (fun _ s₅ => ∃ m, m < n ∧ I m s₅) (notedBy (model prog w) A env fun e s' => R (.error e) s') s₄) (notedBy (model prog w) A env fun e s' => R (.error e) s') s₃
            else ∃ m, m < n ∧ I m s₃) (notedBy (model prog w) A env fun e s' => R (.error e) s') s₂) (notedBy (model prog w) A env fun e s' => R (.error e) s') s₁') (notedBy (model prog w) A env fun e s' => R (.error e) s') s₁) (notedBy (model prog w) A env fun e s' => R (.error e) s') s)
    (n : Nat) {s : Shared} (h : I n s) :
    codeAny (model prog w) A (.compLoop (.ListComp elt [⟨target, iter, ifs, 0⟩] scope pos) 0 it acc env) R s := by
  refine codeAny_loop rfl I (fun n s hI => ?_) n h
  show wpAny _ A ((compTurn (.ListComp elt [⟨target, iter, ifs, 0⟩] scope pos) 0 it acc env).onRaise (fun x => do noteFrame x env; theTreesLotGoes x)) _ _ s
  refine wpAny_noted ?_
  rw [compTurn_list]
  refine wpAny_bind (wpAny_standAt (wpAny_bind (wpAny_mono (turn n s hI) (fun r s₁ h₁ => ?_) fun _ _ h' => h')))
  cases r with
  | none => exact wpAny_pure h₁
  | some v =>
    refine wpAny_bind (wpAny_mono h₁ (fun _ s₁' h₁' => ?_) fun _ _ h' => h')
    refine wpAny_bind (wpAny_mono h₁' (fun _ s₂ h₂ => wpAny_bind (wpAny_mono h₂ (fun ok s₃ h₃ => ?_) fun _ _ h' => h')) fun _ _ h' => h')
    cases ok with
    | false => exact wpAny_pure ⟨rfl, h₃⟩
    | true =>
      exact wpAny_bind (wpAny_bind (wpAny_mono h₃ (fun x s₄ h₄ => wpAny_bind (wpAny_mono h₄ (fun _ s₅ h₅ => wpAny_pure (wpAny_pure ⟨rfl, h₅⟩)) fun _ _ h' => h')) fun _ _ h' => h'))
noncomputable def CompTurn (c : Cx) (env : Env) (scope : Scope) (cl : List (Str × Addr)) (elt target : Expr) (ifs : List Expr) (names : List String) (loc : Loc) (H0 : Own) (items : List AV) (g : Nat → Option AV) : Prop :=
  ∀ X Y C D l i x ys, items[i]? = some x → l.map (·.1) = names → As1 (c.wX X Y) (compEnvC scope cl C env) target x loc ((C, .ns l) :: (D, .list ys) :: H0) fun loc' H2 => loc' = loc ∧ ∃ l2, l2.map (·.1) = names ∧ H2 = (C, .ns l2) :: (D, .list ys) :: H0 ∧
        ATs (c.wX X Y) (compEnvC scope cl C env) ifs loc H2 fun b H3 => H3 = H2 ∧ (b = true → AE (c.wX X Y) (compEnvC scope cl C env) elt loc H2 fun y H4 => H4 = H2 ∧ g i = some y) ∧ (b = false → g i = none)
inductive CompOk (c : Cx) (env : Env) (scope : Scope) (cl : List (Str × Addr)) (elt target : Expr) (ifs : List Expr) (names : List String) (loc : Loc) (F : List AV → (Nat → Option AV) → Prop) (v : AV) (H0 : Own) : Prop
  | intro (items : List AV) (g : Nat → Option AV) (it : It c v items) (len : items.length ≤ 1000000) (turn : CompTurn c env scope cl elt target ifs names loc H0 items g) (fin : F items g)
theorem comp_rule {c : Cx} {k : Nat} (G : c.Good k) {env : Env} {elt target iter : Expr} {ifs : List Expr} {scope : Scope} {pos spos : Pos} {cl : List (Str × Addr)} {use : Option (Value → Sem Unit)} {Qc : Value → Shared → Prop} {loc : Loc} {H : Own} {T : Tmp} {s : Shared}
    (names : List String) (hnd : names.Nodup) (hclos : closureFor scope env = pure cl) (hcell : ∀ y ∈ scope.names, y.2 ≠ .cell) (hkind : scope.kind = .function) (hnames : ∀ z ∈ scope.names, z.2 = .local → scope.names.lookup z.1 = some .local)
    (hs : ∀ x, foldedSetIterable iter env x = pure x) (R : Rep c loc H T s)
    (h : AE c env iter loc H fun v H0 => CompOk c env scope cl elt target ifs names loc (fun items g => ∀ C D l T' s', Rep c loc ((C, .ns l) :: (D, .list ((List.range items.length).filterMap g)) :: H0) T' s' → (∀ p ∈ T, p ∈ T') → compPost (model pg c.w) c.A (fun _ _ => False) use Qc (.ref D) C (.ok .next) s') v H0) :
    wpAny (model pg c.w) c.A (comprehension (.ListComp elt [⟨target, iter, ifs, 0⟩] scope pos) scope env spos (newList []) false (eval iter env) use) Qc (fun _ _ => False) s := by
  refine wpAny_comprehension_free rfl hs hclos hkind hnames (thenW (h T s R) fun v' s1 v H0 R1 hx => ?_)
  obtain ⟨items, g, hit, hlen, turn, fin⟩ := hx
  obtain ⟨N, es, m, R1⟩ := R1
  refine hit _ _ _ _ _ _ _ _ R1 (.head _) _ _ fun o fp Pi St hf W hst hfp hIo hPi => ?_
  have W := W c.A G.room.handled
  generalize hI : s1.heap.objs.size = I at W hst hfp hIo
  have hY : ∀ p ∈ c.Y, p ∈ N := R1.yk
  have R2 : Rep (c.wX ((I, o) :: c.X) N) loc H0 ((v, v') :: T) { s1 with heap := s1.heap.push o } := hI ▸ R1.lay o hf
  obtain ⟨N2, es2, m2, R2⟩ := R2
  have hfp2 : ∀ b ∈ fp, b < (s1.heap.push o).objs.size := fun b hb => by
    rcases hfp b hb with rfl | ⟨ob, hob⟩
    · rw [Heap.size_push, hI]; exact Nat.lt_succ_self _
    · rw [Heap.size_push]; exact Nat.lt_succ_of_lt (Heap.lt_size (R1.nw _ (List.mem_append_left _ hob)).1)
  refine newList_K R2.F R2.nw (fun D h3 F3 N3 lt3 => ?_) (by simp)
  have R3 := R2.newO F3 N3 lt3 (tk := s1.toks) (OR.list (l := []) (n := 0) VRs.nil)
  refine wpAny_newFunctionEnv hcell (by intro y hy; simp at hy) (fun h₁ hns hsb => ?_) hkind
  dsimp only at hns hsb ⊢
  generalize hC : h3.objs.size = C at hns hsb ⊢
  obtain ⟨oC, esC, epC, hoC, hns1, hns2, hns3⟩ := hns
  subst hC
  have F4 := R3.F.filled hsb
  have N4 := R3.nw.filled R3.F hsb hoC
  have R4 := R3.newO F4 N4 (fun p hp => Heap.lt_size (R3.nw p hp).1) (tk := s1.toks) (OR.ns (l := names.map fun x => (x, none)) (m := fun _ => none) ⟨esC, epC, hns1, hns2, fun x => by simpa using hns3 x⟩ (by simpa [Function.comp_def] using hnd) (fun x v hm => by simp at hm))
  generalize hCC : h3.objs.size = C at *
  have st4 : St 0 h₁ := st_keep W hfp hst (by rw [← hI]; exact Heap.get?_push_size _ hf) (fun p hp => (R2.nw _ (List.mem_append_left _ (R2.yk _ hp))).1) R4.rep
  have loop : codeAny (model pg c.w) c.A (.compLoop (.ListComp elt [⟨target, iter, ifs, 0⟩] scope pos) 0 (.ref I) (.ref D) (compEnvC scope cl C env)) (compPost (model pg c.w) c.A (fun _ _ => False) use Qc (.ref D) C) { s1 with heap := h₁, toks := s1.toks + ([] : List (Str × Value)).length } := by
    refine compLoop_any (fun n s' => ∃ i o' l, n = items.length - i ∧ i ≤ items.length ∧ l.map (·.1) = names ∧ Rep (c.wX ((I, o') :: c.X) N) loc ((C, .ns l) :: (D, .list ((List.range i).filterMap g)) :: H0) ((v, v') :: T) s' ∧ St i s'.heap) (fun n s' hinv => ?_) items.length
      ⟨0, o, names.map fun x => (x, none), rfl, Nat.zero_le _, by simp [Function.comp_def], R4.rep, st4⟩
    · obtain ⟨i, o', l, rfl, hi, hl, R5, st⟩ := hinv
      rcases Nat.lt_or_ge i items.length with hlt | hge
      · refine W.item i _ _ _ hlt st fun u' h2 tk hP st2 hk2 => ?_
        obtain ⟨x, hx, hxv⟩ := hPi i u' hP hlt
        obtain ⟨o2, ho2, hq2⟩ := hIo _ _ st2
        refine hq2 _ _ _ _ _ _ _ ho2 ?_
        have R6 : Rep (c.wX ((I, o2) :: c.X) N) loc _ ((v, v') :: T) { s' with heap := h2, toks := tk } := R5.turn (fun b ob hb e => hk2 b ob (by simpa using hb) e) ho2
        obtain ⟨N6, es6, m6, R6⟩ := R6
        have R7 := R6.put (hxv.monoN R6.yk)
        have stF : ∀ (H7 : Own) (T7 : Tmp) (s7 : Shared), Rep (c.wX ((I, o2) :: c.X) N) loc H7 T7 s7 → St (i + 1) s7.heap := fun H7 T7 s7 R7 => st_keep W hfp st2 ho2 (fun p hp => (R6.nw _ (List.mem_append_left _ (R6.yk _ hp))).1) R7
        refine thenL (c := c.wX ((I, o2) :: c.X) N) (turn ((I, o2) :: c.X) N C D l i x _ hx hl _ _ _ R7.rep (.head _)) fun _ s8 loc2 H8 R8 h8 => ?_
        obtain ⟨rfl, l2, hl2, rfl, htest⟩ := h8
        refine thenB (c := c.wX ((I, o2) :: c.X) N) (htest _ _ R8) fun b s9 H9 R9 ⟨e9, hT, hF⟩ => ?_
        subst e9
        cases b with
        | false =>
          refine ⟨_, by omega, i + 1, o2, l2, rfl, hlt, hl2, ?_, stF _ _ _ R9⟩
          rw [List.range_succ, List.filterMap_append]
          simp only [List.filterMap_cons, hF rfl, List.filterMap_nil, List.append_nil]
          exact R9.sub fun p hp => .tail _ hp
        | true =>
          refine thenW (c := c.wX ((I, o2) :: c.X) N) (hT rfl _ _ R9) fun y' s10 y H10 R10 ⟨e10, hy⟩ => ?_
          subst e10
          obtain ⟨N10, es10, m10, R10⟩ := R10
          have R11 := R10.put (.ref (a := D))
          refine thenW (c := c.wX ((I, o2) :: c.X) N) (OpCall_append (c := c.wX ((I, o2) :: c.X) N) (a := D) (l := (List.range i).filterMap g) (v := y) (P := fun _ H' => H' = (C, .ns l2) :: (D, .list ((List.range i).filterMap g ++ [y])) :: H0) (.tail (.head)) ?_ rfl _ _ _ R11.rep (.cons (.head _) (.cons (.tail _ (.head _)) .nil))) fun _ s11 v11 H11 R12 e11 => ?_
          · exact Nat.le_trans (List.length_filterMap_le _ _) (by rw [List.length_range]; omega)
          subst e11
          refine ⟨_, by omega, i + 1, o2, l2, rfl, hlt, hl2, ?_, stF _ _ _ R12⟩
          rw [List.range_succ, List.filterMap_append]
          simp only [List.filterMap_cons, hy, List.filterMap_nil]
          exact R12.sub fun p hp => .tail _ (.tail _ (.tail _ (.tail _ hp)))
      · obtain rfl : i = items.length := Nat.le_antisymm hi hge
        refine W.done _ _ _ st fun h2 tk hk2 => ?_
        exact fin C D l _ _ ((R5.unlayBut hY (fun b ob hb e => hk2 b ob hb e)) ) fun p hp => .tail _ hp
  exact codeAny_compStart_list loop (W.self 0 _ _ _ st4 loop)
theorem Rep.swap {c : Cx} {loc : Loc} {p q : Addr × AO} {H : Own} {T : Tmp} {s : Shared} (R : Rep c loc (p :: q :: H) T s) : Rep c loc (q :: p :: H) T s := by
  obtain ⟨N, es, m, F, nw, nd, own, yk, tmp, lc, g, os⟩ := R
  obtain ⟨e1, _, rfl, h1, r⟩ := own.inv
  · obtain ⟨e2, es2, rfl, h2, r⟩ := r.inv
    · have hp : (N ++ (e1 ++ (e2 ++ es2))).Perm (N ++ (e2 ++ (e1 ++ es2))) := by
        refine List.Perm.append_left _ ?_
        rw [← List.append_assoc, ← List.append_assoc]
        exact List.Perm.append_right _ List.perm_append_comm
      exact ⟨N, e2 ++ (e1 ++ es2), m, F, fun p hm => nw p (hp.mem_iff.mpr hm), (hp.map _).nodup_iff.mp nd, .cons h2 (.cons h1 r), yk, tmp, lc, g, os⟩
section
variable {c : Cx} {k : Nat} {env : Env} {elt target iter : Expr} {ifs : List Expr} {scope : Scope} {pos spos py : Pos} {cl : List (Str × Addr)} {loc : Loc} {H : Own} {P : AV → Own → Prop} {Q : SP}
theorem AE_listcomp (G : c.Good k) (names : List String) (hclos : closureFor scope env = pure cl)
    (h : AE c env iter loc H fun v H0 => CompOk c env scope cl elt target ifs names loc (fun items g => P (.lst ((List.range items.length).filterMap g)) H0) v H0)
    (hnd : names.Nodup := by decide) (hcell : ∀ y ∈ scope.names, y.2 ≠ .cell := by decide) (hkind : scope.kind = .function := by rfl) (hnames : ∀ z ∈ scope.names, z.2 = .local → scope.names.lookup z.1 = some .local := by decide)
    (hs : ∀ x, foldedSetIterable iter env x = pure x := by intros; with_unfolding_all rfl) :
    AE c env (.ListComp elt [⟨target, iter, ifs, 0⟩] scope pos) loc H P := fun T s R => by
  show wpAny _ _ _ _ _ _
  rw [eval_ListComp]
  refine comp_rule G (use := none) names hnd hclos hcell hkind hnames hs R fun T s R => thenW (h T s R) fun v' s' v H0 R0 ⟨items, g, q1, q2, q3, q4⟩ => ⟨v, H0, R0, items, g, q1, q2, q3, fun C D l T' s2 R2 hT => ?_⟩
  obtain ⟨N, es, m, R2⟩ := R2
  obtain ⟨e, ho, he⟩ := R2.get (.head _)
  obtain ⟨o, mC, rfl, hn, nd2, hv⟩ := ho.ns_inv
  · obtain ⟨es', ep, h1, h2, h3⟩ := hn
    refine ⟨mC, ⟨o, es', ep, (R2.nw _ (he _ (.head _))).1, h1, h2, h3⟩, fun h' hs' => ⟨_, _, (R2.dropBut hs').freeze.sub fun p hp => ?_, q4⟩⟩
    rcases List.mem_cons.mp hp with rfl | hp
    · exact .head _
    · exact .tail _ (hT p hp)
theorem AS_listcomp {y : Str} (G : c.Good k) (names : List String) (hclos : closureFor scope env = pure cl)
    (h : AE c env iter loc H fun v H0 => CompOk c env scope cl elt target ifs names loc (fun items g => ∀ C l, St1 c env y (.lst ((List.range items.length).filterMap g)) loc ((C, .ns l) :: H0) fun loc' H' => ∃ H2, H' = (C, .ns l) :: H2 ∧ Q .next loc' H2) v H0)
    (hsw : swapsWith (.ListComp elt [⟨target, iter, ifs, 0⟩] scope pos) (some (.Name y py)) spos.line env = pure true := by with_unfolding_all rfl)
    (hnd : names.Nodup := by decide) (hcell : ∀ y ∈ scope.names, y.2 ≠ .cell := by decide) (hkind : scope.kind = .function := by rfl) (hnames : ∀ z ∈ scope.names, z.2 = .local → scope.names.lookup z.1 = some .local := by decide)
    (hs : ∀ x, foldedSetIterable iter env x = pure x := by intros; with_unfolding_all rfl) :
    AS c env (.Assign [.Name y py] (.ListComp elt [⟨target, iter, ifs, 0⟩] scope pos) spos) loc H Q := fun T s R => by
  show wpAny _ _ _ _ _ _
  rw [exec_Assign_Name_used _ _ _ _ hsw]
  refine wpAny_bind (wpAny_standAt (wpAny_bind ?_))
  show wpAny _ _ (do let _ ← comprehension (.ListComp elt [⟨target, iter, ifs, 0⟩] scope pos) scope env _ (newList []) false (eval iter env) (some (assign (.Name y py) env))) _ _ s
  refine wpAny_bind (thenL (comp_rule G (use := some (assign (.Name y py) env)) (Qc := fun _ s' => LOut c T (Q .next) s') names hnd hclos hcell hkind hnames hs R fun T1 s R => thenW (h T1 s R) fun v' s' v H0 R0 ⟨items, g, q1, q2, q3, q4⟩ => ⟨v, H0, R0, items, g, q1, q2, q3, fun C D l T' s2 R2 hT => ?_⟩) fun _ s' loc' H' R' q' => wpAny_pure (wpAny_pure ⟨.next, loc', H', _, .next, R', q'⟩))
  show wpAny _ _ (assign (.Name y py) env (.ref D)) _ _ _
  refine wpAny_assign_Name (thenL (q4 C l _ _ _ R2.swap.freeze (.head _)) fun _ s3 l3 H3 R3 ⟨H4, e3, q5⟩ => ?_)
  subst e3
  obtain ⟨N, es, m, R3⟩ := R3
  obtain ⟨e, ho, he⟩ := R3.get (.head _)
  obtain ⟨o, mC, rfl, hn, nd2, hv⟩ := ho.ns_inv
  · obtain ⟨es', ep, h1, h2, h3⟩ := hn
    exact ⟨mC, ⟨o, es', ep, (R3.nw _ (he _ (.head _))).1, h1, h2, h3⟩, fun h' hs' => ⟨_, _, (R3.dropBut hs').sub fun p hp => .tail _ (hT p hp), q5⟩⟩
end
theorem As1_tup2 {c : Cx} {k : Nat} {env : Env} {x y : String} {v1 v2 : AV} {p1 p2 p3 : Pos} {k1 : Nat} {loc : Loc} {H : Own} {Q : Loc → Own → Prop} (G : c.Good k) (h : St1 c env (Str.ofString x) v1 loc H fun l1 H2 => St1 c env (Str.ofString y) v2 l1 H2 Q) :
    As1 c env (.Tuple [.Name (Str.ofString x) p1, .Name (Str.ofString y) p2] k1 p3) (.tup [v1, v2]) loc H Q := fun T s v' R hm => by
  obtain ⟨N, es, m, R1⟩ := R
  obtain ⟨t, vs, rfl, hN, hv⟩ := (R1.tmp _ hm).tup_inv
  · obtain ⟨u1, u2, rfl, h1, h2⟩ := hv.inv2
    · show wpAny _ _ (do standAt p3; unpack (.ref t) [(false, assign (.Name (Str.ofString x) p1) env), (false, assign (.Name (Str.ofString y) p2) env)]) _ _ _
      refine wpAny_bind (wpAny_standAt ?_)
      show wpAny _ _ (do assignInOrder [assign (.Name (Str.ofString x) p1) env, assign (.Name (Str.ofString y) p2) env] (← holding [.ref t] (unpackItems (.ref t) 2 none))) _ _ _
      refine wpAny_bind (wpAny_holding ?_)
      refine unpackItemsN_ (items := #[u1, u2]) R1.F R1.nw ⟨_, (R1.nw _ (List.mem_append_left _ hN)).1, rfl, 0, rfl⟩ G.room.handled rfl fun h' F' N' => ?_
      have R2 := ((R1.keep (tk := s.toks) F' N').put h1).put h2
      show wpAny _ _ (assignInOrder [assign (.Name (Str.ofString x) p1) env, assign (.Name (Str.ofString y) p2) env] [u1, u2]) _ _ _
      refine wpAny_bind (wpAny_holding (wpAny_assign_Name (thenL (h _ _ _ R2.rep (.tail _ (.head _))) fun _ s3 l1 H2 R3 h3 => ?_)))
      refine wpAny_bind (wpAny_holding (wpAny_assign_Name (thenL (h3 _ _ _ R3 (.head _)) fun _ s4 l2 H3 R4 h4 => ?_)))
      exact wpAny_pure ⟨_, _, R4.sub fun p hp => .tail _ (.tail _ hp), h4⟩
end
section
noncomputable def cellOwn : List (Str × Addr) → List (Option AV) → Own
  | p :: r, v :: vs => (p.2, .cell v) :: cellOwn r vs
  | _, _ => []
inductive CellVals (B : Heap) (N : Led) (cm : Str → Option Value) : List (Str × Addr) → List (Option AV) → Prop
  | nil : CellVals B N cm [] []
  | none {n : Str} {a : Addr} {r : List (Str × Addr)} {vs : List (Option AV)} : CellVals B N cm r vs → CellVals B N cm ((n, a) :: r) (none :: vs)
  | some {n : Str} {a : Addr} {r : List (Str × Addr)} {vs : List (Option AV)} {v : AV} {v' : Value} : cm n = some v' → VR B N v v' → CellVals B N cm r vs → CellVals B N cm ((n, a) :: r) (some v :: vs)
theorem ownR_cells {B : Heap} {N X : Led} {cm : Str → Option Value} {cs : List (Str × Addr)} {vs : List (Option AV)} {cells : Led} {H : Own} {es : Led} (q : CellVals B N cm cs vs) (p : CellsAre cm cs cells) (r : OwnR B N X H es) : OwnR B N X (cellOwn cs vs ++ H) (cells ++ es) := by
  induction q generalizing cells with
  | nil => cases p; exact r
  | none q ih =>
    cases p with
    | cons hd p => exact OwnR.cons (e := [(_, _)]) (.uncell hd) (ih p)
  | some e hv q ih =>
    cases p with
    | cons hd p => exact OwnR.cons (e := [(_, _)]) (.cell (hd.trans (by rw [e])) hv) (ih p)
theorem cells_addrs {cm : Str → Option Value} {cs : List (Str × Addr)} {cells : Led} (h : CellsAre cm cs cells) : cells.map (·.1) = cs.map (·.2) := by
  induction h with
  | nil => rfl
  | cons _ _ ih => exact congrArg (_ :: ·) ih
theorem AF_defC {k : Nat} {f : Addr} {name qual : Str} {params : Arguments} {body : List Stmt} {scope : Scope} {dV kV doc pm cdv ct oc : Value} {an od : Option Addr} {osl : Array (Option Value)}
    {args : List AV} {H : Own} {P : AV → Own → Prop} (cvs : List (Option AV)) (l0 : Loc) (binds : List Value → List (Str × Value))
    (hK : ∀ w, (KF w).lookup f = some ⟨oc, od, .func (fnX name qual params body scope [] dV kV doc pm an cdv ct), osl⟩) (hcd : ∀ w, codeIn (KF w) cdv qual = true)
    (hb : ∀ (w : World) (s : Shared) (args' : List Value), args'.length = args.length → BindsTo s (fnX name qual params body scope [] dV kV doc pm an cdv ct) ⟨args', []⟩ (binds args'))
    (hkind : ∀ args' : List Value, args'.length = args.length → ((binds args').all fun y => scope.names.lookup y.1 == some .local || scope.names.lookup y.1 == some .cell) = true)
    (hnd : ((cellsFrom 0 scope.names []).map (·.1)).Nodup)
    (hca : ∀ L, ((cellsFrom (L + 1) scope.names []).map (·.2)).Nodup ∧ ∀ p ∈ cellsFrom (L + 1) scope.names [], L < p.2)
    (hL : ∀ (L : Addr) B N args', VRs B N args args' → LocR scope B N (bindL (envOfC qual scope L f cdv).kindOf (binds args') fun _ => none) l0)
    (hC : ∀ (L : Addr) B N args', VRs B N args args' → CellVals B N (bindC (envOfC qual scope L f cdv).kindOf (binds args') fun _ => none) (cellsFrom (L + 1) scope.names []) cvs)
    (h : ∀ (w : World) (os : OsState) (base : Heap) (outer : List Env) (A₀ A : Around) (h₀ : Heap) (L : Addr) (X Y : Led), let c : Cx := ⟨w, os, base, outer, A₀, A, h₀, L, qual, scope, f, cdv, cellsFrom (L + 1) scope.names [], X, Y⟩; c.Good k →
      ASs c c.env body l0 (cellOwn (cellsFrom (L + 1) scope.names []) cvs ++ H) (kFn P))
    (hco : scope.isCoroutine = false := by rfl) (hgen : scope.isGenerator = false := by rfl) (hk : scope.kind = .function := by rfl) :
    AF (k + 1) (.ref f) args H P := by
  intro c A loc T s args' G hA hR R hI
  obtain ⟨N, es, m, R⟩ := R
  obtain ⟨mg, mb, top⟩ := G.top
  obtain ⟨TL, hT1, hT2⟩ := LocR.temps R.loc.is
  have KS : (KF c.w).In s.heap := G.K.keeps R.F.keep
  have hvs : VRs c.base N args args' := hI.vrs R.tmp
  refine callX_cells (binds := binds args') G.below R.F R.nw top.nolimit hA rfl G.kind (KS _ _ (hK c.w)) rfl (codeRec_of KS (hcd c.w)) (by have := hR.depth; show A.depth < 1000; omega) (hb c.w s args' hI.length) (kindsX (hkind args' hI.length)) hnd (fun g L' h₁ tk cells FG F' N' Y' B' st hlt => ?_) hco hgen hk
  let c' : Cx := { w := c.w, os := c.os, base := c.base, outer := c.env :: c.outer, A₀ := A, A := A.deeper (envOfC qual scope L' f cdv), h₀ := g, L := L', nm := qual, scope := scope, f := f, cd := cdv, cells := cellsFrom (L' + 1) scope.names [], X := c.X, Y := c.Y }
  have G' : c'.Good k := ⟨B', by show (A.deeper _).frames = _; unfold Around.deeper; rw [hA]; rfl, hk, ⟨by show A.depth + 1 + 10 * k < 900; have := hR.depth; omega, by show A.units + 3 + 40 * k < 9000; have := hR.units; omega, hR.handled⟩,
    G.K.keeps st, ⟨mg, mb, top.keeps st⟩⟩
  have hp : (cells ++ (N ++ es)).Perm (N ++ (cells ++ es)) := by
    rw [← List.append_assoc, ← List.append_assoc]
    exact List.Perm.append_right _ List.perm_append_comm
  have nd' : ((cells ++ (N ++ es)).map (·.1)).Nodup := by
    rw [List.map_append, List.nodup_append]
    refine ⟨by rw [cells_addrs Y']; exact (hca L').1, R.nd, fun a ha b hb e => ?_⟩
    rw [cells_addrs Y'] at ha
    obtain ⟨p, hp, rfl⟩ := List.mem_map.mp ha
    obtain ⟨q, hq, rfl⟩ := List.mem_map.mp hb
    have h1 := (hca L').2 p hp
    have h2 := hlt q hq
    rw [e] at h1; exact absurd h2 (Nat.not_lt.mpr (Nat.le_of_lt h1))
  have R' : RepW c' l0 (cellOwn (cellsFrom (L' + 1) scope.names []) cvs ++ H) (T ++ TL) { s with heap := h₁, toks := tk } N (cells ++ es) (bindL (envOfC qual scope L' f cdv).kindOf (binds args') fun _ => none) := by
    refine ⟨F', fun p hm => N' p (hp.mem_iff.mpr hm), (hp.map _).nodup_iff.mp nd', ownR_cells (hC _ _ _ _ hvs) Y' R.own, R.yk, fun p hp => ?_, hL _ _ _ _ hvs, R.gens, R.os⟩
    rcases List.mem_append.mp hp with hp | hp
    · exact R.tmp p hp
    · exact hT1 p hp
  refine wpAny_mono (h _ _ _ _ _ _ _ _ _ _ G' (T ++ TL) _ R'.rep) (fun fl s' hp => ?_) fun _ _ e => e.elim
  obtain ⟨fl', loc', H', T', hf, R2, hp⟩ := hp
  obtain ⟨N2, es2, m2, R2⟩ := R2
  have back : ∀ (v : AV) (v' : Value), VR c.base N2 v v' → (∀ p ∈ T ++ TL, VR c.base N2 p.1 p.2) → P v H' → LeaveK c.h₀ c.L m g (RP c loc T P) v' s' := fun v v' hv ht hP => by
    refine leaveK_ R2.F R2.nw fun F3 N3 => ?_
    refine ⟨v, H', ⟨N2, es2, m, F3, N3, R2.nd, R2.own, R2.yk, fun p hp => ?_, ⟨R.loc.nd, R.loc.kd, fun x u hm => ?_⟩, R2.gens, R2.os⟩, hP⟩
    · rcases List.mem_cons.mp hp with rfl | hp
      · exact hv
      · exact ht p (List.mem_append_left _ hp)
    · obtain ⟨u', e1, e2⟩ := hT2 x u hm
      exact ⟨u', e1, ht _ (List.mem_append_right _ e2)⟩
  cases hf with
  | next => exact back .none .none .none R2.tmp hp
  | brk => exact hp.elim
  | cont => exact hp.elim
  | @ret v v' => exact back v v' (R2.tmp (v, v') (.head _)) (fun p hp => R2.tmp p (.tail _ hp)) hp
theorem updF_of {P Q : Led} {d : Addr} {ob : Obj} (h1 : ∀ p ∈ P, p.1 ≠ d) (h2 : ∀ p ∈ Q, p.1 ≠ d) : UpdF d ob (P ++ (d, ob) :: Q) fun o' => P ++ (d, o') :: Q := by
  induction P with
  | nil => exact .head h2
  | cons p P ih => exact .tail (h1 p (.head _)) (ih fun q hq => h1 q (.tail _ hq))
section
variable {c : Cx} {env : Env} {loc loc' : Loc} {H H' : Own} {k : Nat} {v : AV} {v₀ : Option AV} {ca : Addr}
theorem St1_cell {y : String} {Q : Loc → Own → Prop} (G : c.Good k) (hc : c.cells.lookup (Str.ofString y) = some ca) (hk : c.scope.names.lookup (Str.ofString y) = some .cell) (U : At ca (.cell v₀) (.cell (some v)) H H') (h : Q loc H') : St1 c c.env (Str.ofString y) v loc H Q := fun T s v' R m => by
  obtain ⟨N, es, mm, R⟩ := R
  have hv := R.tmp _ m
  obtain ⟨e, ho, kk⟩ := R.upd U
  have main : ∀ (ob : Obj) (u : Option Value), e = [(ca, ob)] → ob.data = .cell u → wpAny (model pg c.w) c.A (storeName c.env (Str.ofString y) v') (fun _ s' => LOut c T Q s') EF s := fun ob u he hd => by
    subst he
    obtain ⟨Pr, Po, e1, q1, q2, fin⟩ := kk [] ca ob [] rfl
    have nw := R.nw
    rw [e1] at nw
    exact storeX_C (cl := c.cells) R.F nw hc (updF_of q1 q2) hd (fun h' o' F' N' hd' => ⟨loc, H', fin o' h' s.toks (.cell hd' hv) F' N', h⟩) G.kind hk
  cases ho with
  | cell hd _ => exact main _ _ rfl hd
  | uncell hd => exact main _ _ rfl hd
end
theorem OpCall_newinst {c : Cx} {k : Nat} {loc : Loc} {H : Own} {P : AV → Own → Prop} {C fI : Addr} {args : List AV} (G : c.Good (k + 1)) (hm : ∀ w, makesIn (KF w) C = true) (hi : ∀ w, findIn (KF w) (.ref C) "__init__" = some (some (.ref fI))) (hf : ∀ w, typeIn (KF w) (.ref fI) = some (.type "function"))
    (hinit : ∀ a, AF k (.ref fI) (.ref a :: args) ((a, .inst C []) :: H) fun v H1 => v = .none ∧ P (.ref a) H1) :
    OpCall c (.ref C) args loc H P := fun T s vs' R hA => by
  obtain ⟨N, es, mm, R⟩ := R
  refine wpAny_call (make_K R.F R.nw (G.K.keeps R.F.keep) (hm _) (hi _) (hf _) fun x dx h' F' N' l1 l2 => ?_)
  have R2 := R.newO2 (tk := s.toks) F' N' l1 l2 (.inst (fs := []) (n := 0) .nil)
  have hA2 : ArgsIn ((AV.ref x, .ref x) :: T) (.ref x :: args) (.ref x :: vs') := by
    refine .cons (.head _) ?_
    clear R2 N' F' hinit
    induction hA with
    | nil => exact .nil
    | cons m _ ih => exact .cons (.tail _ m) ih
  refine codeAny_mono (hinit _ c _ loc _ _ _ (G.le (Nat.zero_le _)) G.frames ⟨?_, ?_, ?_⟩ (R2.put (.ref _)).rep hA2) fun r s' hr => ?_
  · have := G.room.depth; show c.A.depth + 1 + 10 * k < 900; omega
  · have := G.room.units; show c.A.units + 1 + 40 * k < 9000; omega
  · exact G.room.handled
  · unfold RP at hr
    split at hr
    · obtain ⟨v, H', R, rfl, hp⟩ := hr
      obtain rfl := R.isNone (.head _)
      refine ⟨rfl, _, _, R.sub fun p hp => ?_, hp⟩
      rcases List.mem_cons.mp hp with rfl | hp
      · exact .tail _ (.head _)
      · exact .tail _ (.tail _ hp)
    · exact hr.elim
end
section
theorem OwnR.weak {B : Heap} {N X : Led} {H H' : Own} (h : H'.Sublist H) : ∀ {es : Led}, OwnR B N X H es → ∃ es', OwnR B N X H' es' ∧ es'.Sublist es := by
  induction h with
  | slnil => intro es r; exact ⟨es, r, List.Sublist.refl _⟩
  | cons p _ ih =>
    intro es r
    cases r with
    | @cons _ _ e es1 _ ho r =>
      obtain ⟨es', r', s'⟩ := ih r
      exact ⟨es', r', s'.trans (List.sublist_append_right _ _)⟩
  | cons_cons p _ ih =>
    intro es r
    cases r with
    | @cons _ _ e es1 _ ho r =>
      obtain ⟨es', r', s'⟩ := ih r
      exact ⟨e ++ es', .cons ho r', List.Sublist.append (List.Sublist.refl _) s'⟩
section
variable {c : Cx} {env : Env} {loc loc' : Loc} {H H' : Own} {P : AV → Own → Prop} {T : Tmp} {s : Shared} {i j : Int} {x y z : Str} {b : Bool} {a : Addr} {l l' : List AV} {k : Nat} {pos : Pos}
theorem Rep.weak (R : Rep c loc H T s) (h : H'.Sublist H) : Rep c loc H' T s := by
  obtain ⟨N, es, m, F, nw, nd, own, yk, tmp, lc, g, os⟩ := R
  obtain ⟨es', own', hs⟩ := own.weak h
  refine ⟨N, es', m, F, fun p hp => nw p ?_, nd.sublist (List.Sublist.map _ (List.Sublist.append (List.Sublist.refl _) hs)), own', yk, tmp, lc, g, os⟩
  rcases List.mem_append.mp hp with hp | hp
  · exact List.mem_append_left _ hp
  · exact List.mem_append_right _ (hs.subset hp)
theorem AE_weak {e : Expr} (h : AE c env e loc H fun v H1 => ∃ H0, H0.Sublist H1 ∧ P v H0) : AE c env e loc H P := fun T s R =>
  thenW (h T s R) fun v' s' v H1 R1 ⟨H0, hs, p⟩ => ⟨v, H0, R1.weak hs, p⟩
theorem foldl_app {α : Type} (xs : Array α) : ∀ n (acc : Array α), List.foldl (fun x1 x2 => x1 ++ x2) acc (List.replicate n xs) = acc ++ (List.replicate n xs.toList).flatten.toArray
  | 0, acc => by simp
  | n + 1, acc => by rw [List.replicate_succ, List.foldl_cons, foldl_app xs n]; rw [Array.append_assoc]; congr 1; simp [List.replicate_succ]
theorem VRs.rep {B : Heap} {N : Led} {xs : List AV} {vs : List Value} (h : VRs B N xs vs) : ∀ n, VRs B N (List.replicate n xs).flatten (List.replicate n vs).flatten
  | 0 => .nil
  | n + 1 => by simp only [List.replicate_succ, List.flatten_cons]; exact h.append (h.rep n)
theorem OpB_lmul {v : AV} (hm : (a, AO.list [v]) ∈ H) (h0 : 0 ≤ i) (hi : i ≤ 16777216) (h : ∀ q, P (.ref q) ((q, .list (List.replicate i.toNat v)) :: H)) : OpB c .Mult (.ref a) (.int i) loc H P := fun T s v1' v2' R m1 m2 => by
  obtain ⟨t, rfl⟩ := R.isInt m2
  rw [R.isRef m1]
  obtain ⟨N, es, m, R⟩ := R
  obtain ⟨e, ho, he⟩ := R.get hm
  obtain ⟨vs, n, rfl, hv⟩ := ho.list_inv
  · have hvl := hv.length
    have e1 : vs.toArray.isEmpty = false := by cases vs with
      | nil => simp at hvl
      | cons _ _ => rfl
    refine mul_list R.F R.nw (R.nw _ (he _ (.head _))).1 (by omega) (by omega) (by rw [List.size_toArray, hvl]; simp; omega) fun h' F' N' => ⟨_, _, ?_, h s.heap.objs.size⟩
    rw [e1, foldl_app] at N'
    simp only [Bool.false_eq_true, if_false, Array.empty_append] at N'
    have hr := hv.rep i.toNat
    have e2 : (List.replicate i.toNat [v]).flatten = List.replicate i.toNat v := by
      generalize i.toNat = n
      induction n with
      | zero => rfl
      | succ n ih => simp [List.replicate_succ]
    rw [e2] at hr
    exact ((R.newO (tk := s.toks) F' N' (fun p hp => Heap.lt_size (R.nw p hp).1) (OR.list (n := 0) hr)).put (.ref _)).rep
theorem OpB_ladd {a' : Addr} (hm : (a, AO.list l) ∈ H) (hm' : (a', AO.list l') ∈ H) (hz : l.length + l'.length ≤ 1000000) (h : ∀ q, P (.ref q) ((q, .list (l ++ l')) :: H)) : OpB c .Add (.ref a) (.ref a') loc H P := fun T s v1' v2' R m1 m2 => by
  rw [R.isRef m1, R.isRef m2]
  obtain ⟨N, es, m, R⟩ := R
  obtain ⟨e, ho, he⟩ := R.get hm
  obtain ⟨e', ho', he'⟩ := R.get hm'
  obtain ⟨vs, n, rfl, hv⟩ := ho.list_inv
  · obtain ⟨vs', n', rfl, hv'⟩ := ho'.list_inv
    · refine add_lists R.F R.nw ⟨_, (R.nw _ (he _ (.head _))).1, rfl, n, rfl⟩ ⟨_, (R.nw _ (he' _ (.head _))).1, rfl, n', rfl⟩ (fun h' F' N' => ⟨_, _, ?_, h s.heap.objs.size⟩) (by rw [hv.length, hv'.length]; exact Nat.le_trans hz (by decide))
      exact ((R.newO (tk := s.toks) F' N' (fun p hp => Heap.lt_size (R.nw p hp).1) (OR.list (n := 0) (hv.append hv'))).put (.ref _)).rep
theorem OpCall_split (hy : (y.length == 0) = false) (hz : x.length ≤ 1000000) (h : P (.lst ((Txt.split x y).map .str)) H) : OpCall c (.builtin "str.split") [.str x, .str y] loc H P := fun T s vs' R hA => by
  obtain ⟨_, _, rfl, m1, m2⟩ := hA.two
  ·   obtain ⟨t, rfl⟩ := R.isStr m1; obtain ⟨u, rfl⟩ := R.isStr m2
      obtain ⟨N, es, m, R⟩ := R
      refine KSpl.split1 R.F R.nw hy (fun D l h' k e hl F' N' lt => ⟨_, _, ?_, h⟩) (by rw [sizeLine_eq]; omega)
      rw [e] at hl
      exact ((R.newN (tk := k) F' N' lt).put (.lst (.head _) (VRs.ofStrs hl))).rep
theorem OpCall_max_lst {ns : List Int} (G : c.Good k) (hne : 0 < ns.length) (h : ∀ M, M ∈ ns → (∀ a ∈ ns, a ≤ M) → P (.int M) H) : OpCall c (.builtin "max") [.lst (ns.map .int)] loc H P := fun T s vs' R hA => by
  obtain ⟨_, rfl, m1⟩ := hA.one
  · obtain ⟨N, es, m, R⟩ := R
    obtain ⟨ax, vs, n, rfl, hN, hv⟩ := (R.tmp _ m1).lst_inv
    · exact max_list_N G.room.handled R.F R.nw ⟨_, (R.nw _ (List.mem_append_left _ hN)).1, rfl, n, rfl⟩ hv.ints hne fun h' M t tk F' N' h1 h2 => ⟨_, _, ((R.keep (tk := tk) F' N').put (.int M t)).rep, h M h1 h2⟩
theorem OpCall_min_lst {ns : List Int} (G : c.Good k) (hne : 0 < ns.length) (h : ∀ M, M ∈ ns → (∀ a ∈ ns, M ≤ a) → P (.int M) H) : OpCall c (.builtin "min") [.lst (ns.map .int)] loc H P := fun T s vs' R hA => by
  obtain ⟨_, rfl, m1⟩ := hA.one
  · obtain ⟨N, es, m, R⟩ := R
    obtain ⟨ax, vs, n, rfl, hN, hv⟩ := (R.tmp _ m1).lst_inv
    · exact min_list_N G.room.handled R.F R.nw ⟨_, (R.nw _ (List.mem_append_left _ hN)).1, rfl, n, rfl⟩ hv.ints hne fun h' M t tk F' N' h1 h2 => ⟨_, _, ((R.keep (tk := tk) F' N').put (.int M t)).rep, h M h1 h2⟩
theorem OpCall_sum_lst {ns : List Int} (G : c.Good k) (h : P (.int ns.sum) H) : OpCall c (.builtin "sum") [.lst (ns.map .int)] loc H P := fun T s vs' R hA => by
  obtain ⟨_, rfl, m1⟩ := hA.one
  · obtain ⟨N, es, m, R⟩ := R
    obtain ⟨ax, vs, n, rfl, hN, hv⟩ := (R.tmp _ m1).lst_inv
    · exact LSm.sum_ints R.F R.nw G.room.handled ⟨_, (R.nw _ (List.mem_append_left _ hN)).1, rfl, n, rfl⟩ hv.ints fun h' tk t F' N' => ⟨_, _, ((R.keep (tk := tk) F' N').put (.int _ t)).rep, h⟩
theorem OpCall_max2 (G : c.Good k) (h : P (.int (if j > i then j else i)) H) : OpCall c (.builtin "max") [.int i, .int j] loc H P := fun T s vs' R hA => by
  obtain ⟨_, _, rfl, m1, m2⟩ := hA.two
  ·   obtain ⟨t, rfl⟩ := R.isInt m1; obtain ⟨u, rfl⟩ := R.isInt m2
      obtain ⟨N, es, m, R⟩ := R
      exact max_two_N G.room.handled R.F R.nw fun h' tk F' N' => ⟨_, _, ((R.keep (tk := tk) F' N').put (.int _ _)).rep, h⟩
theorem OpCall_tuple_own (hm : (a, AO.list l) ∈ H) (hz : l.length ≤ 16384) (h : P (.tup l) H) : OpCall c (.type "tuple") [.ref a] loc H P := fun T s vs' R hA => by
  obtain ⟨_, rfl, m1⟩ := hA.one
  · rw [R.isRef m1]
    obtain ⟨N, es, m, R⟩ := R
    obtain ⟨e, ho, he⟩ := R.get hm
    obtain ⟨vs, n, rfl, hv⟩ := ho.list_inv
    · refine kde_tupleOf R.F R.nw ⟨_, (R.nw _ (he _ (.head _))).1, rfl, n, rfl⟩ (by rw [List.size_toArray, hv.length]; exact hz) rfl fun D h' F' N' lt => ⟨_, _, ?_, h⟩
      exact ((R.newN (tk := s.toks) F' N' lt).put (.tup (.head _) (hv.monoN fun p hp => .tail _ hp))).rep
theorem OpCall_index_lst {ns : List Int} (hlay : PyData.layable0 (.list (ns.map .int)) = true) (hk : i ∈ ns) (h : P (.int (ns.idxOf i : Nat)) H) : OpCall c (.builtin "list.index") [.lst (ns.map .int), .int i] loc H P := fun T s vs' R hA => by
  obtain ⟨_, _, rfl, m1, m2⟩ := hA.two
  ·   obtain ⟨t, rfl⟩ := R.isInt m2
      obtain ⟨N, es, m, R⟩ := R
      obtain ⟨ax, vs, n, rfl, hN, hv⟩ := (R.tmp _ m1).lst_inv
      · exact index_list_ints ⟨_, (R.nw _ (List.mem_append_left _ hN)).1, rfl, n, rfl⟩ hv.ints hlay hk ⟨_, _, (R.tok.put (.int _ _)).rep, h⟩
end
end
section
noncomputable def AEP (n : Nat) (c : Cx) (env : Env) (e : Expr) (loc : Loc) (H : Own) (P : AV → Own → Prop) : Prop := ∀ T s, Rep c loc H T s → n ≤ s.toks → W c T (eval e env) loc P s
noncomputable def ASP (n : Nat) (c : Cx) (env : Env) (st : Stmt) (loc : Loc) (H : Own) (P : SP) : Prop := ∀ T s, Rep c loc H T s → n ≤ s.toks → WS c T (exec st env) P s
noncomputable def ASsP (n : Nat) (c : Cx) (env : Env) (st : List Stmt) (loc : Loc) (H : Own) (P : SP) : Prop := ∀ T s, Rep c loc H T s → n ≤ s.toks → WS c T (execs st env) P s
section
variable {c : Cx} {loc : Loc} {T : Tmp} {s : Shared} {E : Value → Shared → Prop} {n : Nat}
theorem thenWn {t : Sem Value} {P : AV → Own → Prop} {Q : Value → Shared → Prop} (hn : n ≤ s.toks) (h : W c T t loc P s) (k : ∀ v' s' (_ : n ≤ s'.toks) v H, Rep c loc H ((v, v') :: T) s' → P v H → Q v' s') : wpAny (model pg c.w) c.A t Q E s :=
  wpAny_mono (wpAny_toks_of hn h) (fun v' s' o => WOut.casesOn o.2 fun v H R p => k v' s' o.1 v H R p) fun _ _ e => False.elim e.2
theorem thenBn {t : Sem Bool} {P : Bool → Own → Prop} {Q : Bool → Shared → Prop} (hn : n ≤ s.toks) (h : wpAny (model pg c.w) c.A t (BOut c loc T P) EF s) (k : ∀ b s' (_ : n ≤ s'.toks) H, Rep c loc H T s' → P b H → Q b s') : wpAny (model pg c.w) c.A t Q E s :=
  wpAny_mono (wpAny_toks_of hn h) (fun b s' o => BOut.casesOn o.2 fun H R p => k b s' o.1 H R p) fun _ _ e => False.elim e.2
theorem thenFn {t : Sem Flow} {P : SP} {Q : Flow → Shared → Prop} (hn : n ≤ s.toks) (h : WS c T t P s) (k : ∀ f' s' (_ : n ≤ s'.toks) f l H T', FlR T f f' T' → Rep c l H T' s' → P f l H → Q f' s') : wpAny (model pg c.w) c.A t Q E s :=
  wpAny_mono (wpAny_toks_of hn h) (fun f' s' o => FOut.casesOn o.2 fun f l H T' hf R p => k f' s' o.1 f l H T' hf R p) fun _ _ e => False.elim e.2
theorem thenAn {t : Sem (List Value)} {P : List AV → Own → Prop} {Q : List Value → Shared → Prop} (hn : n ≤ s.toks) (h : wpAny (model pg c.w) c.A t (AOut c loc T P) EF s) (k : ∀ v' s' (_ : n ≤ s'.toks) vs H T', Rep c loc H T' s' → ArgsIn T' vs v' → (∀ p ∈ T, p ∈ T') → P vs H → Q v' s') : wpAny (model pg c.w) c.A t Q E s :=
  wpAny_mono (wpAny_toks_of hn h) (fun v' s' o => AOut.casesOn o.2 fun vs H T' R a h p => k v' s' o.1 vs H T' R a h p) fun _ _ e => False.elim e.2
end
section
variable {n : Nat} {c : Cx} {env : Env} {loc loc' : Loc} {H H' : Own} {P : AV → Own → Prop} {Q : SP} {T : Tmp} {s : Shared} {x y z : Str} {k : Nat} {pos : Pos}
theorem AE.p {e : Expr} (h : AE c env e loc H P) : AEP n c env e loc H P := fun T s R _ => h T s R
theorem AS.p {e : Stmt} (h : AS c env e loc H Q) : ASP n c env e loc H Q := fun T s R _ => h T s R
theorem ASs.p {e : List Stmt} (h : ASs c env e loc H Q) : ASsP n c env e loc H Q := fun T s R _ => h T s R
theorem ASsP_nil (h : Q .next loc H) : ASsP n c env [] loc H Q := (ASs_nil h).p
noncomputable abbrev kSeqP (n : Nat) (c : Cx) (env : Env) (rest : List Stmt) (Q : SP) : SP := fun f l H1 => match f with | .next => ASsP n c env rest l H1 Q | f => Q f l H1
theorem ASsP_cons {st : Stmt} {rest : List Stmt} (h : ASP n c env st loc H (kSeqP n c env rest Q)) : ASsP n c env (st :: rest) loc H Q := fun T s R hn =>
  wpAny_execs_cons (thenFn hn (h T s R hn) fun f' s1 hn1 f l H1 T1 hf R1 h1 => by
    cases hf with
    | next => exact h1 _ _ R1 hn1
    | brk => exact ⟨_, _, _, _, .brk, R1, h1⟩
    | cont => exact ⟨_, _, _, _, .cont, R1, h1⟩
    | ret => exact ⟨_, _, _, _, .ret, R1, h1⟩)
noncomputable abbrev kIfP (n : Nat) (c : Cx) (env : Env) (loc : Loc) (body orelse : List Stmt) (Q : SP) : Bool → Own → Prop := fun b H1 => (b = true → ASsP n c env body loc H1 Q) ∧ (b = false → ASsP n c env orelse loc H1 Q)
theorem ASP_if {t : Expr} {body orelse : List Stmt} (h : AB c env t loc H (kIfP n c env loc body orelse Q)) : ASP n c env (.If t body orelse pos) loc H Q := fun T s R hn =>
  wpAny_If (thenBn hn (h T s R) fun b s1 hn1 H1 R1 ⟨h1, h2⟩ => by
    cases b with
    | true => rw [if_pos rfl]; exact h1 rfl _ _ R1 hn1
    | false => rw [if_neg Bool.false_ne_true]; exact h2 rfl _ _ R1 hn1)
theorem ASP_assign {y : String} {e : Expr} {p1 : Pos} (h : AEP n c env e loc H (kAsg c env loc (Str.ofString y) Q))
    (hs : swapsWith e (some (.Name (Str.ofString y) p1)) pos.line env = pure false := by with_unfolding_all rfl) : ASP n c env (.Assign [.Name (Str.ofString y) p1] e pos) loc H Q := fun T s R hn =>
  wpAny_Assign_Name (thenW (h T s R hn) fun v' s1 v H1 R1 h1 => thenL (h1 _ _ _ R1 (.head _)) fun _ s2 l H2 R2 h2 => ⟨_, _, _, _, .next, R2.sub fun p hp => .tail _ hp, h2⟩) hs
theorem AEP_ifexp {t e1 e2 : Expr} (h : AB c env t loc H fun b H1 => (b = true → AEP n c env e1 loc H1 P) ∧ (b = false → AEP n c env e2 loc H1 P)) : AEP n c env (.IfExp t e1 e2 pos) loc H P := fun T s R hn =>
  IfExp_ (thenBn hn (h T s R) fun b s1 hn1 H1 R1 ⟨h1, h2⟩ => by
    cases b with
    | true => rw [if_pos rfl]; exact h1 rfl _ _ R1 hn1
    | false => rw [if_neg Bool.false_ne_true]; exact h2 rfl _ _ R1 hn1)
theorem ASP_try {body orelse : List Stmt} {h0 : ExceptHandler} {hs : List ExceptHandler} (h : ASsP n c env body loc H fun f l H1 => match f with | .next => ASsP n c env orelse l H1 Q | f => Q f l H1) : ASP n c env (.Try body (h0 :: hs) orelse [] pos) loc H Q := fun T s R hn =>
  wpAny_Try_except (thenFn hn (h T s R hn) fun f' s1 hn1 f l H1 T1 hf R1 h1 => by
    cases hf with
    | next => exact h1 _ _ R1 hn1
    | brk => exact ⟨_, _, _, _, .brk, R1, h1⟩
    | cont => exact ⟨_, _, _, _, .cont, R1, h1⟩
    | ret => exact ⟨_, _, _, _, .ret, R1, h1⟩)
theorem Cx.Good.booked {hh : Heap} (G : c.Good k) (R : Rep c loc H T s) (e : s.heap = hh) : NoneBooked hh := by
  subst e
  obtain ⟨N, es, m, R⟩ := R
  have X := G.K.keeps R.F.keep
  have h1 := Heap.Ns.of_isNs (isNs_of_in X (show nsOkIn (KF c.w) cStatics = true by kernel_rfl))
  exact ⟨_, h1, ns_none_of X h1 (show nsIn (KF c.w) cStatics sharingNotToldKey = some none by kernel_rfl)⟩
theorem AEP_replace {o : Expr} {apos p1 p2 : Pos} {k1 k2 : Nat} (G : c.Good k) (hn : 1 ≤ n) (h : AE c env o loc H fun v H1 => ∃ x, v = .str x ∧ x.length + (x.length + 1) * z.length ≤ 16777216 ∧ P (.str (Txt.replace x y z)) H1)
    {pl : Sem Bool} (h1 : eval (.Call (.Attribute o "replace" apos) [.Constant (.str y) k1 p1, .Constant (.str z) k2 p2] [] pos) env = (do let ov ← eval o env; standAt apos.atName; let (f, first) ← holding [ov] (getMethod ov "replace" pl); callWith pos f first (backTo pos (starEach [.Constant (.str y) k1 p1, .Constant (.str z) k2 p2] env)) []) := by with_unfolding_all rfl) :
    AEP n c env (.Call (.Attribute o "replace" apos) [.Constant (.str y) k1 p1, .Constant (.str z) k2 p2] [] pos) loc H P := fun T s R hn' => by
  refine MethodCall_ (thenWn hn' (h T s R) fun v' s1 ht v H1 R1 ⟨x, hv, hb, hp⟩ => ?_) h1
  subst hv
  obtain ⟨t, rfl⟩ := R1.isStr (.head _)
  refine GM.replace (PyProof.Rows.callWith_method1 (spliced_more (wpAny_Constant_str (spliced_more (wpAny_Constant_str (spliced_none ?_))))))
  have h0 : s1.toks ≠ 0 := by omega
  refine SC.replaceA h0 (Nat.succ_ne_zero _) (Nat.ne_of_lt (Nat.lt_succ_self _)) hb (fun t' tk => ⟨_, _, ?_, hp⟩) (G.booked R1 rfl)
  obtain ⟨N, es, m, R1⟩ := R1
  exact ((R1.tok.put (.str _ _)).sub fun p hp => by
    rcases List.mem_cons.mp hp with rfl | hp
    · exact .head _
    · exact .tail _ (.tail _ hp)).rep
end
end
section
noncomputable def AFP (n k : Nat) (f : Value) (args : List AV) (H : Own) (P : AV → Own → Prop) : Prop :=
  ∀ (c : Cx) (A : Around) (loc : Loc) (T : Tmp) (s : Shared) (args' : List Value), c.Good 0 → A.frames = some (c.env :: c.outer) → Room A k → Rep c loc H T s → n ≤ s.toks → ArgsIn T args args' →
    codeAny (model pg c.w) A (.call f ⟨args', []⟩) (RP c loc T P) s
theorem AFP_def {n k : Nat} {f : Addr} {name qual : Str} {params : Arguments} {body : List Stmt} {scope : Scope} {cl : List (Str × Addr)} {dV kV doc pm cdv ct oc : Value} {an od : Option Addr} {osl : Array (Option Value)}
    {args ds : List AV} {H : Own} {P : AV → Own → Prop} (xs ys : List String) (l0 : Loc)
    (hK : ∀ w, (KF w).lookup f = some ⟨oc, od, .func (fnX name qual params body scope cl dV kV doc pm an cdv ct), osl⟩) (hcd : ∀ w, codeIn (KF w) cdv qual = true)
    (hl : (args ++ ds).length = xs.length) (nd : (xs ++ ys).Nodup)
    (hb : ∀ (w : World) (s : Shared) (args' : List Value), args'.length = args.length → (KF w).In s.heap → ∃ ds', BindsTo s (fnX name qual params body scope cl dV kV doc pm an cdv ct) ⟨args', []⟩ ((xs.map Str.ofString).zip (args' ++ ds')) ∧ ∀ B N, VRs B N ds ds')
    (hloc : ((xs ++ ys).all (locOk scope)) = true)
    (h : ∀ (w : World) (os : OsState) (base : Heap) (outer : List Env) (A₀ A : Around) (h₀ : Heap) (L : Addr) (X Y : Led), let c : Cx := ⟨w, os, base, outer, A₀, A, h₀, L, qual, scope, f, cdv, cl, X, Y⟩; c.Good k → ASsP n c c.env body l0 H (kFn P))
    (hcell : ∀ x ∈ scope.names, x.2 ≠ .cell) (hl0 : l0 = loc0 xs (args ++ ds) ys := by rfl) (hco : scope.isCoroutine = false := by rfl) (hgen : scope.isGenerator = false := by rfl) (hk : scope.kind = .function := by rfl) :
    AFP n (k + 1) (.ref f) args H P := by
  subst hl0
  intro c A loc T s args' G hA hR R hn hI
  obtain ⟨N, es, m, R⟩ := R
  obtain ⟨mg, mb, top⟩ := G.top
  obtain ⟨TL, hT1, hT2⟩ := LocR.temps R.loc.is
  have KS : (KF c.w).In s.heap := G.K.keeps R.F.keep
  obtain ⟨ds', hbind, hds⟩ := hb c.w s args' hI.length KS
  have hvs : VRs c.base N (args ++ ds) (args' ++ ds') := (hI.vrs R.tmp).append (hds _ _)
  refine callX_plain (binds := (xs.map Str.ofString).zip (args' ++ ds')) G.below R.F R.nw top.nolimit hA rfl G.kind (KS _ _ (hK c.w)) rfl (codeRec_of KS (hcd c.w)) (by have := hR.depth; show A.depth < 1000; omega) hbind (fun y hy => ?_) (fun g L' h₁ FG F' N' B' st hlt => ?_) hcell hco hgen hk
  · obtain ⟨x, hx, e⟩ := List.mem_map.mp (List.of_mem_zip hy).1
    rw [← e]
    have := List.all_eq_true.mp hloc x (List.mem_append_left _ hx)
    exact of_decide_eq_true (Bool.and_eq_true_iff.mp this).1
  · let c' : Cx := { w := c.w, os := c.os, base := c.base, outer := c.env :: c.outer, A₀ := A, A := A.deeper (envX qual scope L' f cdv cl), h₀ := g, L := L', nm := qual, scope := scope, f := f, cd := cdv, cells := cl, X := c.X, Y := c.Y }
    have G' : c'.Good k := ⟨B', by show (A.deeper _).frames = _; unfold Around.deeper; rw [hA]; rfl, hk, ⟨by show A.depth + 1 + 10 * k < 900; have := hR.depth; omega, by show A.units + 3 + 40 * k < 9000; have := hR.units; omega, hR.handled⟩,
      G.K.keeps st, ⟨mg, mb, top.keeps st⟩⟩
    have R' : RepW c' (loc0 xs (args ++ ds) ys) H (T ++ TL) { s with heap := h₁, toks := s.toks + ((xs.map Str.ofString).zip (args' ++ ds')).length } N es (fun y => ((xs.map Str.ofString).zip (args' ++ ds')).reverse.lookup y) := by
      refine ⟨F', N', R.nd, R.own, R.yk, fun p hp => ?_, locR0 hvs hl nd hloc, R.gens, R.os⟩
      rcases List.mem_append.mp hp with hp | hp
      · exact R.tmp p hp
      · exact hT1 p hp
    refine wpAny_mono (h _ _ _ _ _ _ _ _ _ _ G' (T ++ TL) _ R'.rep (Nat.le_trans hn (Nat.le_add_right _ _))) (fun fl s' hp => ?_) fun _ _ e => e.elim
    obtain ⟨fl', loc', H', T', hf, R2, hp⟩ := hp
    obtain ⟨N2, es2, m2, R2⟩ := R2
    have back : ∀ (v : AV) (v' : Value), VR c.base N2 v v' → (∀ p ∈ T ++ TL, VR c.base N2 p.1 p.2) → P v H' → LeaveK c.h₀ c.L m g (RP c loc T P) v' s' := fun v v' hv ht hP => by
      refine leaveK_ R2.F R2.nw fun F3 N3 => ?_
      refine ⟨v, H', ⟨N2, es2, m, F3, N3, R2.nd, R2.own, R2.yk, fun p hp => ?_, ⟨R.loc.nd, R.loc.kd, fun x u hm => ?_⟩, R2.gens, R2.os⟩, hP⟩
      · rcases List.mem_cons.mp hp with rfl | hp
        · exact hv
        · exact ht p (List.mem_append_left _ hp)
      · obtain ⟨u', e1, e2⟩ := hT2 x u hm
        exact ⟨u', e1, ht _ (List.mem_append_right _ e2)⟩
    cases hf with
    | next => exact back .none .none .none R2.tmp hp
    | brk => exact hp.elim
    | cont => exact hp.elim
    | @ret v v' => exact back v v' (R2.tmp (v, v') (.head _)) (fun p hp => R2.tmp p (.tail _ hp)) hp
section
variable {n : Nat} {c : Cx} {env : Env} {loc loc' : Loc} {H H' : Own} {P : AV → Own → Prop} {T : Tmp} {s : Shared} {k : Nat} {pos : Pos}
noncomputable def OpCallP (n : Nat) (c : Cx) (f : Value) (vs : List AV) (loc : Loc) (H : Own) (P : AV → Own → Prop) : Prop := ∀ T s vs', Rep c loc H T s → n ≤ s.toks → ArgsIn T vs vs' → W c T (call f vs') loc P s
theorem OpCallP_of {f : Value} {vs : List AV} (G : c.Good k) (h : AFP n k f vs H P) : OpCallP n c f vs loc H P := fun T s vs' R hn hA => by
  refine wpAny_call (codeAny_mono (h c c.A loc T s vs' (G.le (Nat.zero_le _)) G.frames G.room R hn hA) fun r s' hr => ?_)
  unfold RP at hr
  split at hr
  · exact hr
  · exact hr.elim
theorem AEP_callf {fe e : Expr} {es : List Expr} (f : Addr) (G : c.Good k) (hf : ∀ w, keepIn (KF w) (.ref f) = true) (h : AE c env fe loc H fun v H1 => v = .ref f ∧ AEs c env pos (e :: es) loc H1 fun vs H2 => OpCallP n c (.ref f) vs loc H2 P)
    (h1 : eval (.Call fe (e :: es) [] pos) env = (do callWith pos (← eval fe env) [] (backTo pos (starEach (e :: es) env)) (backToKw pos (keywordEach [] env))) := by with_unfolding_all rfl)
    (h2 : starEach (e :: es) env = (false, eval e env) :: starEach es env := by with_unfolding_all rfl) (h3 : ((backTo pos (starEach es env)).any (·.1)) = false := by with_unfolding_all rfl) : AEP n c env (.Call fe (e :: es) [] pos) loc H P := fun T s R hn =>
  Call_ (thenWn hn (h T s R) fun v' s1 hn1 v H1 R1 ⟨hv, hh⟩ => by
    subst hv
    rw [R1.isRef (.head _)]
    exact callWith_K G.K (hf c.w) (thenAn hn1 (hh _ _ R1) fun vs' s2 hn2 vs H2 T' R2 hA hT hc => ⟨by
      obtain ⟨N, es, m, R2⟩ := R2
      exact G.K.keeps R2.F.keep, (hc _ _ _ R2 hn2 hA).sub fun p hp => hT _ (.tail _ hp)⟩) h2 h3) h1
theorem ASP_return {e : Expr} {Q : SP} (h : AEP n c env e loc H (kRet loc Q)) : ASP n c env (.Return (some e) pos) loc H Q := fun T s R hn =>
  wpAny_Return_some (thenW (h T s R hn) fun v' s1 v H1 R1 h1 => ⟨_, _, _, _, .ret, R1, h1⟩)
end
end
section
open PySem PySem.W PyProof.Rows PySem.Calls PySem.Spec Builtin Builtin.Str
theorem replace_len (x y z : Str) : (Txt.replace x y z).length ≤ x.length + (x.length + 1) * z.length := by
  unfold Txt.replace
  split
  · omega
  · have h1 := StrLaws.occ_length_le x y 0 x.length (x.length + 1)
    have hy : (glued y (partsBetween x (occurrences x y 0 x.length (x.length + 1)) y.length)).length = x.length := by rw [StrLaws.glued_between_self]
    rw [size_glued, length_partsBetween, Nat.add_sub_cancel] at hy
    rw [size_glued, length_partsBetween, Nat.add_sub_cancel]
    have h2 : (occurrences x y 0 x.length (x.length + 1)).length * z.length ≤ (x.length + 1) * z.length := Nat.mul_le_mul_right _ h1
    omega
noncomputable def rep1 (y z x : Str) : Str := if Txt.contains x y = true then Txt.replace x y z else x
theorem rep1_len {x y z : Str} {b : Nat} (hb : x.length + 1 ≤ b) (hz : z.length ≤ 6) : (rep1 y z x).length + 1 ≤ 7 * b := by
  unfold rep1
  split
  · have h := replace_len x y z
    have h2 : (x.length + 1) * z.length ≤ (x.length + 1) * 6 := Nat.mul_le_mul_left _ hz
    omega
  · omega
theorem rep_bound {x z : Str} {b : Nat} (hx : x.length + 1 ≤ b) (hb : 7 * b ≤ 16777216) (hz : z.length ≤ 6) : x.length + (x.length + 1) * z.length ≤ 16777216 := by
  have h2 : (x.length + 1) * z.length ≤ (x.length + 1) * 6 := Nat.mul_le_mul_left _ hz
  omega
theorem rep1_pos {x y z : Str} (h : Txt.contains x y = true) : rep1 y z x = Txt.replace x y z := if_pos h
theorem rep1_neg {x y z : Str} (h : Txt.contains x y = false) : rep1 y z x = x := if_neg (by rw [h]; exact Bool.false_ne_true)
section
variable {n : Nat} {c : Cx} {env : Env} {loc loc' : Loc} {H : Own} {k : Nat} {pos : Pos} {Q : SP} {x y z : Str}
theorem ASsP_cut {st : Stmt} {rest : List Stmt} (Mid : Loc → Own → Prop) (h : ASP n c env st loc H fun f l H1 => f = .next ∧ Mid l H1) (h2 : ∀ l H1, Mid l H1 → ASsP n c env rest l H1 Q) : ASsP n c env (st :: rest) loc H Q :=
  ASsP_cons fun T s R hn => thenF (h T s R hn) fun f' s1 f l H1 T1 hf R1 ⟨e, hm⟩ => by subst e; exact ⟨_, _, _, _, hf, R1, h2 _ _ hm⟩
end
noncomputable def escA (x : Str) : Str := rep1 "\t" "&#09;" (rep1 "\n" "&#10;" (rep1 "\r" "&#13;" (rep1 "\"" "&quot;" (rep1 ">" "&gt;" (rep1 "<" "&lt;" (rep1 "&" "&amp;" x))))))
noncomputable def escC (x : Str) : Str := rep1 "\r" "&#xD;" (rep1 "\n" "&#xA;" (rep1 "\t" "&#x9;" (rep1 "\"" "&quot;" (rep1 "<" "&lt;" (rep1 "&" "&amp;" x)))))
set_option maxHeartbeats 8000000 in
theorem escA_spec {n k : Nat} {x : Str} {H : Own} {P : AV → Own → Prop} (hn : 1 ≤ n) (hx : x.length ≤ 12) (h : P (.str (escA x)) H) : AFP n (k + 1) (.ref 262) [.str x] H P := by
  refine AFP_def (ds := []) ["text"] [] [("text", some (.str x))] (fun w => by rfl) (fun w => by rfl) rfl (by decide) ?_ (by decide +kernel) ?_ (by decide)
  · intro w s args' hl hk
    obtain ⟨x, rfl⟩ := ln1 hl
    exact ⟨[], BindsTo.of_eq rfl, fun _ _ => .nil⟩
  · intro w os base outer A₀ A h₀ L X Y c G
    refine ASsP_cons (ASP_try ?_)
    have b0 : x.length + 1 ≤ 13 := by omega
    refine ASsP_cut (fun l H1 => l = [("text", some (.str (rep1 "&" "&amp;" (x))))] ∧ H1 = H) (by (refine ASP_if (AB_compare ?_); refine AE_str ?_; refine AE_local (by assumption) (.head _) ?_; refine OpC_in ⟨_, rfl, fun hb => ?_, fun hb => ASsP_nil ⟨rfl, by rw [rep1_neg hb], rfl⟩⟩; refine ASsP_cons (ASP_assign (AEP_replace (by assumption) (by assumption) ?_)); refine AE_local (by assumption) (.head _) ?_; refine ⟨_, rfl, rep_bound (by assumption) (by decide) (by decide), ?_⟩; (with_reducible refine St1_local (by assumption) (by with_reducible repeat first | exact SetL.head | apply SetL.tail) ?_); exact ASsP_nil ⟨rfl, by rw [rep1_pos hb], rfl⟩)) ?_
    intro l H1 hm; rw [hm.1, hm.2]; clear hm
    have b1 : (rep1 "&" "&amp;" (x)).length + 1 ≤ 91 := rep1_len (b := 13) b0 (by decide)
    refine ASsP_cut (fun l H1 => l = [("text", some (.str (rep1 "<" "&lt;" (rep1 "&" "&amp;" (x)))))] ∧ H1 = H) (by (refine ASP_if (AB_compare ?_); refine AE_str ?_; refine AE_local (by assumption) (.head _) ?_; refine OpC_in ⟨_, rfl, fun hb => ?_, fun hb => ASsP_nil ⟨rfl, by rw [rep1_neg hb], rfl⟩⟩; refine ASsP_cons (ASP_assign (AEP_replace (by assumption) (by assumption) ?_)); refine AE_local (by assumption) (.head _) ?_; refine ⟨_, rfl, rep_bound (by assumption) (by decide) (by decide), ?_⟩; (with_reducible refine St1_local (by assumption) (by with_reducible repeat first | exact SetL.head | apply SetL.tail) ?_); exact ASsP_nil ⟨rfl, by rw [rep1_pos hb], rfl⟩)) ?_
    intro l H1 hm; rw [hm.1, hm.2]; clear hm
    have b2 : (rep1 "<" "&lt;" (rep1 "&" "&amp;" (x))).length + 1 ≤ 637 := rep1_len (b := 91) b1 (by decide)
    refine ASsP_cut (fun l H1 => l = [("text", some (.str (rep1 ">" "&gt;" (rep1 "<" "&lt;" (rep1 "&" "&amp;" (x))))))] ∧ H1 = H) (by (refine ASP_if (AB_compare ?_); refine AE_str ?_; refine AE_local (by assumption) (.head _) ?_; refine OpC_in ⟨_, rfl, fun hb => ?_, fun hb => ASsP_nil ⟨rfl, by rw [rep1_neg hb], rfl⟩⟩; refine ASsP_cons (ASP_assign (AEP_replace (by assumption) (by assumption) ?_)); refine AE_local (by assumption) (.head _) ?_; refine ⟨_, rfl, rep_bound (by assumption) (by decide) (by decide), ?_⟩; (with_reducible refine St1_local (by assumption) (by with_reducible repeat first | exact SetL.head | apply SetL.tail) ?_); exact ASsP_nil ⟨rfl, by rw [rep1_pos hb], rfl⟩)) ?_
    intro l H1 hm; rw [hm.1, hm.2]; clear hm
    have b3 : (rep1 ">" "&gt;" (rep1 "<" "&lt;" (rep1 "&" "&amp;" (x)))).length + 1 ≤ 4459 := rep1_len (b := 637) b2 (by decide)
    refine ASsP_cut (fun l H1 => l = [("text", some (.str (rep1 "\"" "&quot;" (rep1 ">" "&gt;" (rep1 "<" "&lt;" (rep1 "&" "&amp;" (x)))))))] ∧ H1 = H) (by (refine ASP_if (AB_compare ?_); refine AE_str ?_; refine AE_local (by assumption) (.head _) ?_; refine OpC_in ⟨_, rfl, fun hb => ?_, fun hb => ASsP_nil ⟨rfl, by rw [rep1_neg hb], rfl⟩⟩; refine ASsP_cons (ASP_assign (AEP_replace (by assumption) (by assumption) ?_)); refine AE_local (by assumption) (.head _) ?_; refine ⟨_, rfl, rep_bound (by assumption) (by decide) (by decide), ?_⟩; (with_reducible refine St1_local (by assumption) (by with_reducible repeat first | exact SetL.head | apply SetL.tail) ?_); exact ASsP_nil ⟨rfl, by rw [rep1_pos hb], rfl⟩)) ?_
    intro l H1 hm; rw [hm.1, hm.2]; clear hm
    have b4 : (rep1 "\"" "&quot;" (rep1 ">" "&gt;" (rep1 "<" "&lt;" (rep1 "&" "&amp;" (x))))).length + 1 ≤ 31213 := rep1_len (b := 4459) b3 (by decide)
    refine ASsP_cut (fun l H1 => l = [("text", some (.str (rep1 "\r" "&#13;" (rep1 "\"" "&quot;" (rep1 ">" "&gt;" (rep1 "<" "&lt;" (rep1 "&" "&amp;" (x))))))))] ∧ H1 = H) (by (refine ASP_if (AB_compare ?_); refine AE_str ?_; refine AE_local (by assumption) (.head _) ?_; refine OpC_in ⟨_, rfl, fun hb => ?_, fun hb => ASsP_nil ⟨rfl, by rw [rep1_neg hb], rfl⟩⟩; refine ASsP_cons (ASP_assign (AEP_replace (by assumption) (by assumption) ?_)); refine AE_local (by assumption) (.head _) ?_; refine ⟨_, rfl, rep_bound (by assumption) (by decide) (by decide), ?_⟩; (with_reducible refine St1_local (by assumption) (by with_reducible repeat first | exact SetL.head | apply SetL.tail) ?_); exact ASsP_nil ⟨rfl, by rw [rep1_pos hb], rfl⟩)) ?_
    intro l H1 hm; rw [hm.1, hm.2]; clear hm
    have b5 : (rep1 "\r" "&#13;" (rep1 "\"" "&quot;" (rep1 ">" "&gt;" (rep1 "<" "&lt;" (rep1 "&" "&amp;" (x)))))).length + 1 ≤ 218491 := rep1_len (b := 31213) b4 (by decide)
    refine ASsP_cut (fun l H1 => l = [("text", some (.str (rep1 "\n" "&#10;" (rep1 "\r" "&#13;" (rep1 "\"" "&quot;" (rep1 ">" "&gt;" (rep1 "<" "&lt;" (rep1 "&" "&amp;" (x)))))))))] ∧ H1 = H) (by (refine ASP_if (AB_compare ?_); refine AE_str ?_; refine AE_local (by assumption) (.head _) ?_; refine OpC_in ⟨_, rfl, fun hb => ?_, fun hb => ASsP_nil ⟨rfl, by rw [rep1_neg hb], rfl⟩⟩; refine ASsP_cons (ASP_assign (AEP_replace (by assumption) (by assumption) ?_)); refine AE_local (by assumption) (.head _) ?_; refine ⟨_, rfl, rep_bound (by assumption) (by decide) (by decide), ?_⟩; (with_reducible refine St1_local (by assumption) (by with_reducible repeat first | exact SetL.head | apply SetL.tail) ?_); exact ASsP_nil ⟨rfl, by rw [rep1_pos hb], rfl⟩)) ?_
    intro l H1 hm; rw [hm.1, hm.2]; clear hm
    have b6 : (rep1 "\n" "&#10;" (rep1 "\r" "&#13;" (rep1 "\"" "&quot;" (rep1 ">" "&gt;" (rep1 "<" "&lt;" (rep1 "&" "&amp;" (x))))))).length + 1 ≤ 1529437 := rep1_len (b := 218491) b5 (by decide)
    refine ASsP_cut (fun l H1 => l = [("text", some (.str (rep1 "\t" "&#09;" (rep1 "\n" "&#10;" (rep1 "\r" "&#13;" (rep1 "\"" "&quot;" (rep1 ">" "&gt;" (rep1 "<" "&lt;" (rep1 "&" "&amp;" (x))))))))))] ∧ H1 = H) (by (refine ASP_if (AB_compare ?_); refine AE_str ?_; refine AE_local (by assumption) (.head _) ?_; refine OpC_in ⟨_, rfl, fun hb => ?_, fun hb => ASsP_nil ⟨rfl, by rw [rep1_neg hb], rfl⟩⟩; refine ASsP_cons (ASP_assign (AEP_replace (by assumption) (by assumption) ?_)); refine AE_local (by assumption) (.head _) ?_; refine ⟨_, rfl, rep_bound (by assumption) (by decide) (by decide), ?_⟩; (with_reducible refine St1_local (by assumption) (by with_reducible repeat first | exact SetL.head | apply SetL.tail) ?_); exact ASsP_nil ⟨rfl, by rw [rep1_pos hb], rfl⟩)) ?_
    intro l H1 hm; rw [hm.1, hm.2]; clear hm
    refine ASsP_cons (ASP_return (AE.p ?_))
    refine AE_local (by assumption) (.head _) ?_
    exact h
set_option maxHeartbeats 8000000 in
theorem escC_spec {n k : Nat} {x : Str} {H : Own} {P : AV → Own → Prop} (hn : 1 ≤ n) (hx : x.length ≤ 12) (h : P (.str (escC x)) H) : AFP n (k + 1) (.ref 269) [.str x] H P := by
  refine AFP_def (ds := []) ["text"] [] [("text", some (.str x))] (fun w => by rfl) (fun w => by rfl) rfl (by decide) ?_ (by decide +kernel) ?_ (by decide)
  · intro w s args' hl hk
    obtain ⟨x, rfl⟩ := ln1 hl
    exact ⟨[], BindsTo.of_eq rfl, fun _ _ => .nil⟩
  · intro w os base outer A₀ A h₀ L X Y c G
    refine ASsP_cons (ASP_try ?_)
    have b0 : x.length + 1 ≤ 13 := by omega
    refine ASsP_cut (fun l H1 => l = [("text", some (.str (rep1 "&" "&amp;" (x))))] ∧ H1 = H) (by (refine ASP_if (AB_compare ?_); refine AE_str ?_; refine AE_local (by assumption) (.head _) ?_; refine OpC_in ⟨_, rfl, fun hb => ?_, fun hb => ASsP_nil ⟨rfl, by rw [rep1_neg hb], rfl⟩⟩; refine ASsP_cons (ASP_assign (AEP_replace (by assumption) (by assumption) ?_)); refine AE_local (by assumption) (.head _) ?_; refine ⟨_, rfl, rep_bound (by assumption) (by decide) (by decide), ?_⟩; (with_reducible refine St1_local (by assumption) (by with_reducible repeat first | exact SetL.head | apply SetL.tail) ?_); exact ASsP_nil ⟨rfl, by rw [rep1_pos hb], rfl⟩)) ?_
    intro l H1 hm; rw [hm.1, hm.2]; clear hm
    have b1 : (rep1 "&" "&amp;" (x)).length + 1 ≤ 91 := rep1_len (b := 13) b0 (by decide)
    refine ASsP_cut (fun l H1 => l = [("text", some (.str (rep1 "<" "&lt;" (rep1 "&" "&amp;" (x)))))] ∧ H1 = H) (by (refine ASP_if (AB_compare ?_); refine AE_str ?_; refine AE_local (by assumption) (.head _) ?_; refine OpC_in ⟨_, rfl, fun hb => ?_, fun hb => ASsP_nil ⟨rfl, by rw [rep1_neg hb], rfl⟩⟩; refine ASsP_cons (ASP_assign (AEP_replace (by assumption) (by assumption) ?_)); refine AE_local (by assumption) (.head _) ?_; refine ⟨_, rfl, rep_bound (by assumption) (by decide) (by decide), ?_⟩; (with_reducible refine St1_local (by assumption) (by with_reducible repeat first | exact SetL.head | apply SetL.tail) ?_); exact ASsP_nil ⟨rfl, by rw [rep1_pos hb], rfl⟩)) ?_
    intro l H1 hm; rw [hm.1, hm.2]; clear hm
    have b2 : (rep1 "<" "&lt;" (rep1 "&" "&amp;" (x))).length + 1 ≤ 637 := rep1_len (b := 91) b1 (by decide)
    refine ASsP_cut (fun l H1 => l = [("text", some (.str (rep1 "\"" "&quot;" (rep1 "<" "&lt;" (rep1 "&" "&amp;" (x))))))] ∧ H1 = H) (by (refine ASP_if (AB_compare ?_); refine AE_str ?_; refine AE_local (by assumption) (.head _) ?_; refine OpC_in ⟨_, rfl, fun hb => ?_, fun hb => ASsP_nil ⟨rfl, by rw [rep1_neg hb], rfl⟩⟩; refine ASsP_cons (ASP_assign (AEP_replace (by assumption) (by assumption) ?_)); refine AE_local (by assumption) (.head _) ?_; refine ⟨_, rfl, rep_bound (by assumption) (by decide) (by decide), ?_⟩; (with_reducible refine St1_local (by assumption) (by with_reducible repeat first | exact SetL.head | apply SetL.tail) ?_); exact ASsP_nil ⟨rfl, by rw [rep1_pos hb], rfl⟩)) ?_
    intro l H1 hm; rw [hm.1, hm.2]; clear hm
    have b3 : (rep1 "\"" "&quot;" (rep1 "<" "&lt;" (rep1 "&" "&amp;" (x)))).length + 1 ≤ 4459 := rep1_len (b := 637) b2 (by decide)
    refine ASsP_cut (fun l H1 => l = [("text", some (.str (rep1 "\t" "&#x9;" (rep1 "\"" "&quot;" (rep1 "<" "&lt;" (rep1 "&" "&amp;" (x)))))))] ∧ H1 = H) (by (refine ASP_if (AB_compare ?_); refine AE_str ?_; refine AE_local (by assumption) (.head _) ?_; refine OpC_in ⟨_, rfl, fun hb => ?_, fun hb => ASsP_nil ⟨rfl, by rw [rep1_neg hb], rfl⟩⟩; refine ASsP_cons (ASP_assign (AEP_replace (by assumption) (by assumption) ?_)); refine AE_local (by assumption) (.head _) ?_; refine ⟨_, rfl, rep_bound (by assumption) (by decide) (by decide), ?_⟩; (with_reducible refine St1_local (by assumption) (by with_reducible repeat first | exact SetL.head | apply SetL.tail) ?_); exact ASsP_nil ⟨rfl, by rw [rep1_pos hb], rfl⟩)) ?_
    intro l H1 hm; rw [hm.1, hm.2]; clear hm
    have b4 : (rep1 "\t" "&#x9;" (rep1 "\"" "&quot;" (rep1 "<" "&lt;" (rep1 "&" "&amp;" (x))))).length + 1 ≤ 31213 := rep1_len (b := 4459) b3 (by decide)
    refine ASsP_cut (fun l H1 => l = [("text", some (.str (rep1 "\n" "&#xA;" (rep1 "\t" "&#x9;" (rep1 "\"" "&quot;" (rep1 "<" "&lt;" (rep1 "&" "&amp;" (x))))))))] ∧ H1 = H) (by (refine ASP_if (AB_compare ?_); refine AE_str ?_; refine AE_local (by assumption) (.head _) ?_; refine OpC_in ⟨_, rfl, fun hb => ?_, fun hb => ASsP_nil ⟨rfl, by rw [rep1_neg hb], rfl⟩⟩; refine ASsP_cons (ASP_assign (AEP_replace (by assumption) (by assumption) ?_)); refine AE_local (by assumption) (.head _) ?_; refine ⟨_, rfl, rep_bound (by assumption) (by decide) (by decide), ?_⟩; (with_reducible refine St1_local (by assumption) (by with_reducible repeat first | exact SetL.head | apply SetL.tail) ?_); exact ASsP_nil ⟨rfl, by rw [rep1_pos hb], rfl⟩)) ?_
    intro l H1 hm; rw [hm.1, hm.2]; clear hm
    have b5 : (rep1 "\n" "&#xA;" (rep1 "\t" "&#x9;" (rep1 "\"" "&quot;" (rep1 "<" "&lt;" (rep1 "&" "&amp;" (x)))))).length + 1 ≤ 218491 := rep1_len (b := 31213) b4 (by decide)
    refine ASsP_cut (fun l H1 => l = [("text", some (.str (rep1 "\r" "&#xD;" (rep1 "\n" "&#xA;" (rep1 "\t" "&#x9;" (rep1 "\"" "&quot;" (rep1 "<" "&lt;" (rep1 "&" "&amp;" (x)))))))))] ∧ H1 = H) (by (refine ASP_if (AB_compare ?_); refine AE_str ?_; refine AE_local (by assumption) (.head _) ?_; refine OpC_in ⟨_, rfl, fun hb => ?_, fun hb => ASsP_nil ⟨rfl, by rw [rep1_neg hb], rfl⟩⟩; refine ASsP_cons (ASP_assign (AEP_replace (by assumption) (by assumption) ?_)); refine AE_local (by assumption) (.head _) ?_; refine ⟨_, rfl, rep_bound (by assumption) (by decide) (by decide), ?_⟩; (with_reducible refine St1_local (by assumption) (by with_reducible repeat first | exact SetL.head | apply SetL.tail) ?_); exact ASsP_nil ⟨rfl, by rw [rep1_pos hb], rfl⟩)) ?_
    intro l H1 hm; rw [hm.1, hm.2]; clear hm
    refine ASsP_cons (ASP_return (AE.p ?_))
    refine AE_local (by assumption) (.head _) ?_
    exact h
end
section
structure Gp where
  marks : Int
  first : Int
  last : Int
  near : Int
  far : Int
noncomputable def Gp.val (g : Gp) (k : Int) : Int := if k < g.marks - g.first then g.near else if k < g.last then g.near + g.far else g.far
noncomputable def Gp.nxt (g : Gp) (k : Int) : Int := if k < g.marks - g.first then k + g.first else if k < g.last then k + (g.first - g.last) else k - g.last
noncomputable def Gp.run (g : Gp) : Nat → Int
  | 0 => 0
  | t + 1 => g.nxt (g.run t)
noncomputable def Gp.gaps (g : Gp) (n : Nat) : List Int := (List.range n).map fun t => g.val (g.run t)
set_option maxHeartbeats 4000000 in
theorem gaps_spec {k : Nat} {g : Gp} {H : Own} {P : AV → Own → Prop} (hm : 0 ≤ g.marks) (hm' : g.marks ≤ 1000) (h : P (.lst ((g.gaps g.marks.toNat).map AV.int)) H) :
    AF (k + 1) (.ref 295) [.int g.marks, .int g.first, .int g.last, .int g.near, .int g.far] H P := by
  refine AF_freeze (AF_def (ds := []) ["marks", "first", "last", "near", "far"] ["gaps", "k", "turn"] [("marks", some (.int g.marks)), ("first", some (.int g.first)), ("last", some (.int g.last)), ("near", some (.int g.near)), ("far", some (.int g.far)), ("gaps", none), ("k", none), ("turn", none)] (fun w => by rfl) (fun w => by rfl) rfl (by decide) ?_ (by decide +kernel) ?_ (by decide))
  · intro w s args' hl hk
    obtain ⟨x, y, z, u, v, rfl⟩ := ln5 hl
    exact ⟨[], BindsTo.of_eq rfl, fun _ _ => .nil⟩
  · intro w os base outer A₀ A h₀ L X Y c G
    refine ASs_cons (AS_assign (AE_list ?_))
    refine AEs_nil ?_
    refine ⟨by simp, fun q => ?_⟩
    (with_reducible refine St1_local (by assumption) (by with_reducible repeat first | exact SetL.head | apply SetL.tail) ?_)
    refine ASs_cons (AS_assign ?_)
    refine AE_int ?_
    (with_reducible refine St1_local (by assumption) (by with_reducible repeat first | exact SetL.head | apply SetL.tail) ?_)
    refine ASs_cut2 (fun l H1 => ∃ tv, H1 = (q, .list ((g.gaps g.marks.toNat).map AV.int)) :: H ∧ l = [("marks", some (.int g.marks)), ("first", some (.int g.first)), ("last", some (.int g.last)), ("near", some (.int g.near)), ("far", some (.int g.far)), ("gaps", some (.ref q)), ("k", some (.int (g.run g.marks.toNat))), ("turn", tv)]) (AS_for G (AE_callt "range" ?_)) ?_
    with_reducible refine AE_builtin (by assumption) (fun _ => by with_unfolding_all rfl) (by with_unfolding_all rfl) (by decide) (by with_unfolding_all rfl) ?_
    refine ⟨rfl, ?_⟩
    refine AEs_cons ?_; refine AE_local (by assumption) (.head _) ?_; refine AEs_nil ?_
    refine OpCall_range1 ⟨_, It_up (by decide) (by decide) (by omega) (by omega), fun i l H1 => ∃ tv, H1 = (q, .list ((g.gaps i).map AV.int)) :: H ∧ l = [("marks", some (.int g.marks)), ("first", some (.int g.first)), ("last", some (.int g.last)), ("near", some (.int g.near)), ("far", some (.int g.far)), ("gaps", some (.ref q)), ("k", some (.int (g.run i))), ("turn", tv)], ⟨_, rfl, rfl⟩, ?_, ?_⟩
    · rintro X Y i x l H1 hx ⟨tv, rfl, rfl⟩
      have G' := G.wX (X := X) (Y := Y)
      have hi : i < g.marks.toNat := by
        have := (List.getElem?_eq_some_iff.mp hx).1
        simpa using this
      have hlen : (g.gaps i).length = i := by simp [Gp.gaps]
      have step : g.gaps (i + 1) = g.gaps i ++ [g.val (g.run i)] := by simp [Gp.gaps, List.range_succ]
      refine As1_name ?_
      (with_reducible refine St1_local (by assumption) (by with_reducible repeat first | exact SetL.head | apply SetL.tail) ?_)
      refine ASs_cons (AS_if (AB_compare ?_))
      refine AE_local (by assumption) (mi 6 rfl) ?_; refine AE_binop ?_; refine AE_local (by assumption) (.head _) ?_; refine AE_local (by assumption) (mi 1 rfl) ?_
      refine OpB_sub ?_
      refine OpC_lt ⟨_, rfl, fun hb => ?_, fun hb => ?_⟩
      · have hb : g.run i < g.marks - g.first := by simpa using hb
        refine ASs_cons (AS_expr (AE_methb "list.append" ?_))
        refine AE_local (by assumption) (mi 5 rfl) ?_
        refine ⟨OpMeth_append (.head _), ?_⟩
        refine AEs_cons ?_
        refine AE_local (by assumption) (mi 3 rfl) ?_
        refine AEs_nil ?_
        refine OpCall_append (by with_reducible repeat first | exact At.head | apply At.tail) (by simp [hlen]; omega) ?_
        refine ASs_cons (AS_aug G' (mi 6 rfl) ?_)
        refine AE_local (by assumption) (mi 1 rfl) ?_
        refine OpI_add ?_
        (with_reducible refine St1_local (by assumption) (by with_reducible repeat first | exact SetL.head | apply SetL.tail) ?_)
        refine ASs_nil (ASs_nil ⟨some x, ?_, ?_⟩)
        · rw [step, List.map_append]; simp only [List.map_cons, List.map_nil, Gp.val, if_pos hb]
        · simp only [Gp.run, Gp.nxt, if_pos hb]
      · have hb : ¬ g.run i < g.marks - g.first := by simpa using hb
        refine ASs_cons (AS_if (AB_compare ?_))
        refine AE_local (by assumption) (mi 6 rfl) ?_; refine AE_local (by assumption) (mi 2 rfl) ?_
        refine OpC_lt ⟨_, rfl, fun hb2 => ?_, fun hb2 => ?_⟩
        · have hb2 : g.run i < g.last := by simpa using hb2
          refine ASs_cons (AS_expr (AE_methb "list.append" ?_))
          refine AE_local (by assumption) (mi 5 rfl) ?_
          refine ⟨OpMeth_append (.head _), ?_⟩
          refine AEs_cons ?_
          refine AE_binop ?_; refine AE_local (by assumption) (mi 3 rfl) ?_; refine AE_local (by assumption) (mi 4 rfl) ?_
          refine OpB_add ?_
          refine AEs_nil ?_
          refine OpCall_append (by with_reducible repeat first | exact At.head | apply At.tail) (by simp [hlen]; omega) ?_
          refine ASs_cons (AS_aug G' (mi 6 rfl) ?_)
          refine AE_binop ?_; refine AE_local (by assumption) (mi 1 rfl) ?_; refine AE_local (by assumption) (mi 2 rfl) ?_
          refine OpB_sub ?_
          refine OpI_add ?_
          (with_reducible refine St1_local (by assumption) (by with_reducible repeat first | exact SetL.head | apply SetL.tail) ?_)
          refine ASs_nil (ASs_nil (ASs_nil ⟨some x, ?_, ?_⟩))
          · rw [step, List.map_append]; simp only [List.map_cons, List.map_nil, Gp.val, if_neg hb, if_pos hb2]
          · simp only [Gp.run, Gp.nxt, if_neg hb, if_pos hb2]
        · have hb2 : ¬ g.run i < g.last := by simpa using hb2
          refine ASs_cons (AS_expr (AE_methb "list.append" ?_))
          refine AE_local (by assumption) (mi 5 rfl) ?_
          refine ⟨OpMeth_append (.head _), ?_⟩
          refine AEs_cons ?_
          refine AE_local (by assumption) (mi 4 rfl) ?_
          refine AEs_nil ?_
          refine OpCall_append (by with_reducible repeat first | exact At.head | apply At.tail) (by simp [hlen]; omega) ?_
          refine ASs_cons (AS_aug G' (mi 6 rfl) ?_)
          refine AE_local (by assumption) (mi 2 rfl) ?_
          refine OpI_sub ?_
          (with_reducible refine St1_local (by assumption) (by with_reducible repeat first | exact SetL.head | apply SetL.tail) ?_)
          refine ASs_nil (ASs_nil (ASs_nil ⟨some x, ?_, ?_⟩))
          · rw [step, List.map_append]; simp only [List.map_cons, List.map_nil, Gp.val, if_neg hb, if_neg hb2]
          · simp only [Gp.run, Gp.nxt, if_neg hb, if_neg hb2]
    · rintro l H1 ⟨tv, rfl, rfl⟩
      refine ASs_nil ⟨tv, ?_, ?_⟩
      · simp
      · simp
    · rintro l H1 ⟨tv, rfl, rfl⟩
      refine ASs_cons (AS_return ?_)
      refine AE_local (by assumption) (mi 5 rfl) ?_
      exact ⟨q, _, _, rfl, rfl, h⟩
end
section
noncomputable def WsF (raw : Str) (n nt : Nat) (cnt : List Nat) (b : Nat) : List (String × AV) :=
  [("raw", .str raw), ("n", .int n), ("nt", .int nt), ("norm", .tup [.tup (cnt.map fun x => AV.int (x : Nat)), .int b]), ("is_simple", .bool (decide (cnt.length ≤ 1)))]
theorem OpCall_len_tup {c : Cx} {loc : Loc} {H : Own} {P : AV → Own → Prop} {l : List AV} (hl : l.length < 2 ^ 62) (h : P (.int l.length) H) : OpCall c (.builtin "len") [.tup l] loc H P := fun T s vs' R hA => by
  obtain ⟨_, rfl, m⟩ := hA.one
  · obtain ⟨N, es, mm, R⟩ := R
    obtain ⟨ax, vs, rfl, hN, hv⟩ := (R.tmp _ m).tup_inv
    · have e : (vs.toArray.size : Int) = (l.length : Int) := by rw [List.size_toArray, hv.length]
      exact len_tuple ⟨_, (R.nw _ (List.mem_append_left _ hN)).1, rfl, 0, rfl⟩ (by rw [e]; omega) ⟨_, _, by rw [e]; exact R.tok.rep.int _ _, h⟩
noncomputable def longest (cnt : List Nat) (b : Nat) : Int := if (b : Int) > (cnt.length : Int) - 1 then b else (cnt.length : Int) - 1
set_option maxHeartbeats 4000000 in
theorem longest_spec {k : Nat} {a : Addr} {raw : Str} {n nt b : Nat} {cnt : List Nat} {H : Own} {P : AV → Own → Prop} (hm : (a, AO.inst 244 (WsF raw n nt cnt b)) ∈ H) (hl : cnt.length ≤ 1000) (h : P (.int (longest cnt b)) H) :
    AF (k + 1) (.ref 206) [.ref a] H P := by
  refine AF_def (ds := []) ["self"] ["count", "trailing"] [("self", some (.ref a)), ("count", none), ("trailing", none)] (fun w => by rfl) (fun w => by rfl) rfl (by decide) ?_ (by decide +kernel) ?_ (by decide)
  · intro w s args' hl hk
    obtain ⟨x, rfl⟩ := ln1 hl
    exact ⟨[], BindsTo.of_eq rfl, fun _ _ => .nil⟩
  · intro w os base outer A₀ A h₀ L X Y c G
    refine ASs_cons (AS_unpack2 G ?_)
    (refine AE_attr (by assumption) ?_; refine AE_local (by assumption) (.head _) ?_; refine ⟨_, 244, _, _, rfl, (by assumption), by simp [fget, WsF]; rfl, rfl, fun w => by kernel_rfl, fun w => by kernel_rfl, fun w => by kernel_rfl, ?_⟩)
    refine ⟨_, _, rfl, ?_⟩
    (with_reducible refine St1_local (by assumption) (by with_reducible repeat first | exact SetL.head | apply SetL.tail) ?_)
    (with_reducible refine St1_local (by assumption) (by with_reducible repeat first | exact SetL.head | apply SetL.tail) ?_)
    refine ASs_cons (AS_return (AE_callb "max" ?_))
    with_reducible refine AE_builtin (by assumption) (fun _ => by with_unfolding_all rfl) (by with_unfolding_all rfl) (by decide) (by with_unfolding_all rfl) ?_
    refine ⟨rfl, ?_⟩
    refine AEs_cons ?_; refine AE_binop ?_
    refine AE_callb "len" ?_
    with_reducible refine AE_builtin (by assumption) (fun _ => by with_unfolding_all rfl) (by with_unfolding_all rfl) (by decide) (by with_unfolding_all rfl) ?_
    refine ⟨rfl, ?_⟩
    refine AEs_cons ?_; refine AE_local (by assumption) (mi 1 rfl) ?_; refine AEs_nil ?_
    refine OpCall_len_tup (by simp; omega) ?_
    refine AE_int ?_
    refine OpB_sub ?_
    refine AEs_cons ?_; refine AE_local (by assumption) (mi 2 rfl) ?_; refine AEs_nil ?_
    refine OpCall_max2 G ?_
    simpa [longest] using h
end
section
theorem noPy {x y : Int} (h : x.natAbs < 2 ^ 200) : Builtin.divisionGoesByPylong x y = false := by
  unfold Builtin.divisionGoesByPylong
  have h2 : x.natAbs.log2 < 200 ∨ x.natAbs = 0 := by
    by_cases e : x.natAbs = 0
    · exact .inr e
    · exact .inl ((Nat.log2_lt e).mpr h)
  have h3 : x.natAbs.log2 < 200 := by
    rcases h2 with h2 | h2
    · exact h2
    · rw [h2]; decide
  rw [Bool.and_eq_false_iff]
  by_cases c : (if y == 0 then 0 else y.natAbs.log2 / 30 + 1) > 300
  · right
    apply decide_eq_false
    show ¬ (if x == 0 then 0 else x.natAbs.log2 / 30 + 1) > (if y == 0 then 0 else y.natAbs.log2 / 30 + 1) + 150
    split <;> omega
  · left; exact decide_eq_false c
theorem mulSmall {x y : Int} (h : x.natAbs < 2 ^ 60) : IntMulOk x y := by
  refine IntMulOk.of_left ?_
  unfold Builtin.Int.intBits
  split
  · omega
  · rename_i e
    have : x.natAbs.log2 < 60 := (Nat.log2_lt (by simpa using e)).mpr h
    omega
noncomputable def ilev (t : Nat) (cnt : List Nat) : Nat → Nat
  | 0 => 0
  | j + 1 => ilev t cnt j + (t + j) / t * cnt.getD (t + j) 0
set_option maxHeartbeats 4000000 in
theorem indent_spec {k : Nat} {a : Addr} {raw : Str} {n nt b t : Nat} {cnt : List Nat} {H : Own} {P : AV → Own → Prop} (hm : (a, AO.inst 244 (WsF raw n nt cnt b)) ∈ H) (hl : cnt.length ≤ 1000) (ht : 1 ≤ t) (ht' : t ≤ 1000) (h : P (.int ((b : Int) + t * ((ilev t cnt (cnt.length - t) : Nat) + (nt : Int)))) H) :
    AF (k + 1) (.ref 213) [.ref a, .int t] H P := by
  refine AF_def (ds := []) ["self", "tabsize"] ["count", "trailing", "il", "i"] [("self", some (.ref a)), ("tabsize", some (.int t)), ("count", none), ("trailing", none), ("il", none), ("i", none)] (fun w => by rfl) (fun w => by rfl) rfl (by decide) ?_ (by decide +kernel) ?_ (by decide)
  · intro w s args' hl hk
    obtain ⟨x, y, rfl⟩ := ln2 hl
    exact ⟨[], BindsTo.of_eq rfl, fun _ _ => .nil⟩
  · intro w os base outer A₀ A h₀ L X Y c G
    refine ASs_cons (AS_unpack2 G ?_)
    (refine AE_attr (by assumption) ?_; refine AE_local (by assumption) (.head _) ?_; refine ⟨_, 244, _, _, rfl, (by assumption), by simp [fget, WsF]; rfl, rfl, fun w => by kernel_rfl, fun w => by kernel_rfl, fun w => by kernel_rfl, ?_⟩)
    refine ⟨_, _, rfl, ?_⟩
    (with_reducible refine St1_local (by assumption) (by with_reducible repeat first | exact SetL.head | apply SetL.tail) ?_)
    (with_reducible refine St1_local (by assumption) (by with_reducible repeat first | exact SetL.head | apply SetL.tail) ?_)
    refine ASs_cons (AS_assign ?_)
    refine AE_int ?_
    (with_reducible refine St1_local (by assumption) (by with_reducible repeat first | exact SetL.head | apply SetL.tail) ?_)
    refine ASs_cut2 (fun l H1 => ∃ iv, H1 = H ∧ l = [("self", some (.ref a)), ("tabsize", some (.int t)), ("count", some (.tup (cnt.map fun x => AV.int (x : Nat)))), ("trailing", some (.int b)), ("il", some (.int (ilev t cnt (cnt.length - t) : Nat))), ("i", iv)]) (AS_for G (AE_callt "range" ?_)) ?_
    with_reducible refine AE_builtin (by assumption) (fun _ => by with_unfolding_all rfl) (by with_unfolding_all rfl) (by decide) (by with_unfolding_all rfl) ?_
    refine ⟨rfl, ?_⟩
    refine AEs_cons ?_; refine AE_local (by assumption) (mi 1 rfl) ?_; refine AEs_cons ?_
    refine AE_callb "len" ?_
    with_reducible refine AE_builtin (by assumption) (fun _ => by with_unfolding_all rfl) (by with_unfolding_all rfl) (by decide) (by with_unfolding_all rfl) ?_
    refine ⟨rfl, ?_⟩
    refine AEs_cons ?_; refine AE_local (by assumption) (mi 2 rfl) ?_; refine AEs_nil ?_
    refine OpCall_len_tup (by simp; omega) ?_
    refine AEs_nil ?_
    refine OpCall_range2 ⟨_, It_up (by omega) (by omega) (by omega) (by simp; omega), fun j l H1 => ∃ iv, H1 = H ∧ l = [("self", some (.ref a)), ("tabsize", some (.int t)), ("count", some (.tup (cnt.map fun x => AV.int (x : Nat)))), ("trailing", some (.int b)), ("il", some (.int (ilev t cnt j : Nat))), ("i", iv)], ⟨_, rfl, rfl⟩, ?_, ?_⟩
    · rintro X Y j x l H1 hx ⟨iv, rfl, rfl⟩
      have G' := G.wX (X := X) (Y := Y)
      have hj : t + j < cnt.length := by
        have := (List.getElem?_eq_some_iff.mp hx).1
        simp at this; omega
      have ex : x = .int ((t + j : Nat) : Int) := by
        rw [List.getElem?_map, List.getElem?_range (by simp; omega)] at hx
        simp at hx; rw [← hx]
        push_cast; rfl
      subst ex
      refine As1_name ?_
      (with_reducible refine St1_local (by assumption) (by with_reducible repeat first | exact SetL.head | apply SetL.tail) ?_)
      refine ASs_cons (AS_assign ?_)
      refine AE_binop ?_; refine AE_local (by assumption) (mi 4 rfl) ?_; refine AE_binop ?_; refine AE_binop ?_; refine AE_local (by assumption) (mi 5 rfl) ?_; refine AE_local (by assumption) (mi 1 rfl) ?_
      refine OpB_div (by omega) (noPy (by omega)) ?_
      refine AE_subg ?_; refine AE_local (by assumption) (mi 2 rfl) ?_; refine AE_local (by assumption) (mi 5 rfl) ?_
      refine ⟨NoPy_tup, OpG_tup (j := t + j) (z := .int (cnt[t + j] : Nat)) (by omega) (by omega) ?_ ?_ ?_⟩
      · rw [List.length_map]; unfold seqIndex?; simp; omega
      · rw [List.getElem?_map, List.getElem?_eq_getElem hj]; rfl
      refine OpB_mul (mulSmall ?_) ?_
      · rw [Int.fdiv_eq_ediv_of_nonneg _ (by omega)]
        have h1 : ((t + j : Nat) : Int) / (t : Int) = (((t + j) / t : Nat) : Int) := by push_cast; rfl
        have h2 := Nat.div_le_self (t + j) t
        rw [h1, Int.natAbs_natCast]; omega
      refine OpB_add ?_
      (with_reducible refine St1_local (by assumption) (by with_reducible repeat first | exact SetL.head | apply SetL.tail) ?_)
      refine ASs_nil ⟨some (.int ((t + j : Nat) : Int)), rfl, ?_⟩
      have e : ((ilev t cnt j : Nat) : Int) + ((t + j : Nat) : Int).fdiv t * (cnt[t + j] : Nat) = ((ilev t cnt (j + 1) : Nat) : Int) := by
        have e2 : cnt.getD (t + j) 0 = cnt[t + j] := by rw [List.getD_eq_getElem?_getD, List.getElem?_eq_getElem hj]; rfl
        rw [ilev, e2]
        push_cast
        rw [Int.fdiv_eq_ediv_of_nonneg _ (by omega)]
      rw [e]
    · rintro l H1 ⟨iv, rfl, rfl⟩
      refine ASs_nil ⟨iv, rfl, ?_⟩
      have e : (List.map (fun i => AV.int ((t : Int) + (i : Nat))) (List.range (((List.map (fun x => AV.int (x : Nat)) cnt).length : Int) - (t : Int)).toNat)).length = cnt.length - t := by simp
      rw [e]
    · rintro l H1 ⟨iv, rfl, rfl⟩
      refine ASs_cons (AS_return ?_)
      refine AE_binop ?_; refine AE_local (by assumption) (mi 3 rfl) ?_; refine AE_binop ?_; refine AE_local (by assumption) (mi 1 rfl) ?_; refine AE_binop ?_; refine AE_local (by assumption) (mi 4 rfl) ?_
      (refine AE_attr (by assumption) ?_; refine AE_local (by assumption) (.head _) ?_; refine ⟨_, 244, _, _, rfl, (by assumption), by simp [fget, WsF]; rfl, rfl, fun w => by kernel_rfl, fun w => by kernel_rfl, fun w => by kernel_rfl, ?_⟩)
      refine OpB_add ?_
      refine OpB_mul (mulSmall (by omega)) ?_
      refine OpB_add ?_
      exact h
end
section
noncomputable abbrev nats (ns : List Nat) : List AV := ns.map fun x => AV.int (x : Nat)
theorem datas_nats : ∀ ns : List Nat, AV.datas (nats ns) = ns.map fun x => PyData.int (x : Nat)
  | [] => by simp [AV.datas]
  | x :: r => by have := datas_nats r; simp only [nats, List.map_cons] at this ⊢; rw [AV.datas, AV.data, this]
theorem doks_nats : ∀ ns : List Nat, AV.doks (nats ns) = true
  | [] => by simp [AV.doks]
  | x :: r => by have := doks_nats r; simp only [nats, List.map_cons] at this ⊢; rw [AV.doks, AV.dok, this]; rfl
theorem lay_nats : ∀ ns : List Nat, PyData.canLayAll0 (ns.map fun x => PyData.int (x : Nat)) = true
  | [] => by simp [PyData.canLayAll0]
  | x :: r => by have := lay_nats r; simp only [List.map_cons]; rw [PyData.canLayAll0, PyData.canLay0, this]; rfl
theorem depth_nats : ∀ ns : List Nat, PyData.depthAll (ns.map fun x => PyData.int (x : Nat)) = 0
  | [] => by simp [PyData.depthAll]
  | x :: r => by have := depth_nats r; simp only [List.map_cons]; rw [PyData.depthAll, PyData.depth, this]; rfl
theorem mix_nats : ∀ ns ms : List Nat, SeqAt.noMixAll (ns.map fun x => PyData.int (x : Nat)) (ms.map fun x => PyData.int (x : Nat)) = true
  | [], [] => by simp [SeqAt.noMixAll]
  | [], x :: r => by simp [SeqAt.noMixAll]
  | x :: r, [] => by simp [SeqAt.noMixAll]
  | x :: r, y :: q => by have := mix_nats r q; simp only [List.map_cons]; rw [SeqAt.noMixAll, SeqAt.noMix, this]; rfl
theorem same_nats : ∀ ns ms : List Nat, PySem.Spec.sameAll (ns.map fun x => PyData.int (x : Nat)) (ms.map fun x => PyData.int (x : Nat)) = decide (ns = ms)
  | [], [] => by simp [PySem.Spec.sameAll]
  | [], x :: r => by simp [PySem.Spec.sameAll]
  | x :: r, [] => by simp [PySem.Spec.sameAll]
  | x :: r, y :: q => by
    have := same_nats r q
    simp only [List.map_cons]
    rw [PySem.Spec.sameAll, PySem.Spec.same, this]
    by_cases e : x = y
    · subst e; by_cases e2 : r = q <;> simp [e2]
    · have e3 : ¬ ((x : Int) = (y : Int)) := by omega
      simp [e, e3]
noncomputable abbrev normAV (cnt : List Nat) (b : Nat) : AV := .tup [.tup (nats cnt), .int b]
theorem norm_data (cnt : List Nat) (b : Nat) : (normAV cnt b).data = .tuple [.tuple (cnt.map fun x => PyData.int (x : Nat)), .int b] := by
  simp only [normAV, AV.data, AV.datas, datas_nats]
theorem norm_dok (cnt : List Nat) (b : Nat) : (normAV cnt b).dok = true := by simp [normAV, AV.dok, AV.doks, doks_nats]
theorem norm_shaped (cnt : List Nat) (b : Nat) : SeqAt.shaped (.tuple [.tuple (cnt.map fun x => PyData.int (x : Nat)), .int b]) = true := by
  simp [SeqAt.shaped, PyData.canLay0, PyData.canLayAll0, lay_nats, PyData.depth, PyData.depthAll, depth_nats]
theorem norm_mix (cnt cnt' : List Nat) (b b' : Nat) : SeqAt.noMix (.tuple [.tuple (cnt.map fun x => PyData.int (x : Nat)), .int b]) (.tuple [.tuple (cnt'.map fun x => PyData.int (x : Nat)), .int b']) = true := by
  simp [SeqAt.noMix, SeqAt.noMixAll, mix_nats]
theorem norm_same (cnt cnt' : List Nat) (b b' : Nat) : PySem.Spec.same (.tuple [.tuple (cnt.map fun x => PyData.int (x : Nat)), .int b]) (.tuple [.tuple (cnt'.map fun x => PyData.int (x : Nat)), .int b']) = decide (cnt = cnt' ∧ b = b') := by
  simp only [PySem.Spec.same, PySem.Spec.sameAll, same_nats]
  by_cases e : cnt = cnt' <;> by_cases e2 : b = b'
  · simp [e, e2]
  · have : ¬ ((b : Int) = (b' : Int)) := by omega
    simp [e, e2, this]
  · simp [e, e2]
  · simp [e, e2]
theorem OpC_norm {c : Cx} {k : Nat} {loc : Loc} {H : Own} {P : AV → Own → Prop} {cnt cnt' : List Nat} {b b' : Nat} (G : c.Good k) (h : P (.bool (decide (cnt = cnt' ∧ b = b'))) H) : OpC c .Eq (normAV cnt b) (normAV cnt' b') loc H P :=
  OpC_deq G (norm_dok _ _) (norm_dok _ _) (by rw [norm_data]; exact norm_shaped _ _) (by rw [norm_data]; exact norm_shaped _ _) (by rw [norm_data, norm_data]; exact norm_mix _ _ _ _) (by rw [norm_data, norm_data, norm_same]; exact h)
set_option maxHeartbeats 4000000 in
theorem equal_spec {k : Nat} {a a' : Addr} {raw raw' : Str} {n nt b n' nt' b' : Nat} {cnt cnt' : List Nat} {H : Own} {P : AV → Own → Prop} (hm : (a, AO.inst 244 (WsF raw n nt cnt b)) ∈ H) (hm' : (a', AO.inst 244 (WsF raw' n' nt' cnt' b')) ∈ H) (h : P (.bool (decide (cnt = cnt' ∧ b = b'))) H) :
    AF (k + 1) (.ref 220) [.ref a, .ref a'] H P := by
  refine AF_def (ds := []) ["self", "other"] [] [("self", some (.ref a)), ("other", some (.ref a'))] (fun w => by rfl) (fun w => by rfl) rfl (by decide) ?_ (by decide +kernel) ?_ (by decide)
  · intro w s args' hl hk
    obtain ⟨x, y, rfl⟩ := ln2 hl
    exact ⟨[], BindsTo.of_eq rfl, fun _ _ => .nil⟩
  · intro w os base outer A₀ A h₀ L X Y c G
    refine ASs_cons (AS_return ?_)
    refine AE_compare ?_
    (refine AE_attr (by assumption) ?_; refine AE_local (by assumption) (.head _) ?_; refine ⟨_, 244, _, _, rfl, (by assumption), by simp [fget, WsF]; rfl, rfl, fun w => by kernel_rfl, fun w => by kernel_rfl, fun w => by kernel_rfl, ?_⟩)
    (refine AE_attr (by assumption) ?_; refine AE_local (by assumption) (mi 1 rfl) ?_; refine ⟨_, 244, _, _, rfl, (by assumption), by simp [fget, WsF]; rfl, rfl, fun w => by kernel_rfl, fun w => by kernel_rfl, fun w => by kernel_rfl, ?_⟩)
    exact OpC_norm G h
end
section
noncomputable def clsStr (K : Frag) (C : Addr) (name x : Str) : Bool := readsIn K C (.type "type") && match findCls K (.ref C) (.type "type") name with
  | some (.val (.str y _)) => y == x
  | _ => false
section
variable {c : Cx} {env : Env} {loc loc' : Loc} {H H' : Own} {P : AV → Own → Prop} {Q : SP} {T : Tmp} {s : Shared} {k : Nat} {pos : Pos} {x : Str}
theorem AE_clsstr {e : Expr} {C : Addr} {name x : Str} (G : c.Good k) (hc : ∀ w, clsStr (KF w) C name x = true) (h : AE c env e loc H fun v H1 => v = .ref C ∧ P (.str x) H1)
    (he : eval (.Attribute e name pos) env = (do
      let o ← eval e env
      standAt pos.atName
      let r ← holding [o] (getAttr o name true)
      letTemporaryGo e o r
      pure r) := by with_unfolding_all rfl) : AE c env (.Attribute e name pos) loc H P := fun T s R =>
  Attribute_any_ (thenW (h T s R) fun v' s1 v H1 R1 ⟨hv, hp⟩ => by
    subst hv
    obtain rfl := R1.isRef (.head _)
    obtain ⟨N, es, m, R1⟩ := R1
    have h0 := hc c.w
    unfold clsStr at h0
    obtain ⟨h1, h2⟩ := Bool.and_eq_true_iff.mp h0
    split at h2
    · rename_i y t e1
      have ey : y = x := eq_of_beq h2
      subst ey
      exact cls_value (G.K.keeps R1.F.keep) h1 e1 rfl ⟨_, _, (((R1.put (.str y t)).sub fun p hp => by
        rcases List.mem_cons.mp hp with rfl | hp
        · exact .head _
        · exact .tail _ (.tail _ hp)).tok (tk := s1.toks + 1)).rep, hp⟩
    · cases h2) he
theorem AS_assign3 {a b d : String} {e : Expr} {p1 p2 p3 : Pos} (h : AE c env e loc H fun v H1 => St1 c env (Str.ofString a) v loc H1 fun l1 H2 => St1 c env (Str.ofString b) v l1 H2 fun l2 H3 => St1 c env (Str.ofString d) v l2 H3 fun l3 H4 => Q .next l3 H4) :
    AS c env (.Assign [.Name (Str.ofString a) p1, .Name (Str.ofString b) p2, .Name (Str.ofString d) p3] e pos) loc H Q := fun T s R =>
  wpAny_Assign_three (thenW (h T s R) fun v' s1 v H1 R1 h1 => wpAny_assign_Name (thenL (h1 _ _ _ R1 (.head _)) fun _ s2 l1 H2 R2 h2 => wpAny_assign_Name (thenL (h2 _ _ _ R2 (.head _)) fun _ s3 l2 H3 R3 h3 => wpAny_assign_Name (thenL (h3 _ _ _ R3 (.head _)) fun _ s4 l3 H4 R4 h4 => ⟨_, _, _, _, .next, R4.sub fun p hp => .tail _ hp, h4⟩))))
end
end
section
structure WSt where
  b : Nat
  n : Nat
  nt : Nat
  cnt : List Nat
noncomputable def grow (cnt : List Nat) (b : Nat) : List Nat := if cnt.length ≤ b then cnt ++ List.replicate (b - cnt.length + 1) 0 else cnt
noncomputable def bump (cnt : List Nat) (b : Nat) : List Nat := (grow cnt b).set b ((grow cnt b).getD b 0 + 1)
noncomputable def WSt.step (st : WSt) (c : Nat) : Option WSt :=
  if c = 32 then some ⟨st.b + 1, st.n + 1, st.nt, st.cnt⟩
  else if c = 9 then some ⟨0, st.n + 1, st.nt + 1, bump st.cnt st.b⟩
  else none
noncomputable def WSt.run : List Nat → WSt → WSt
  | [], st => st
  | c :: r, st => match st.step c with
    | some st' => WSt.run r st'
    | none => st
noncomputable def wsOf (raw : Str) : WSt := WSt.run raw.cps.toList ⟨0, 0, 0, []⟩
theorem sign_eq (c d : Nat) (x : Str) (h : x = ⟨#[d]⟩) : decide ((⟨#[c]⟩ : Str) = x) = decide (c = d) := by
  subst h
  by_cases e : c = d
  · subst e; simp
  · have : ¬ ((⟨#[c]⟩ : Str) = ⟨#[d]⟩) := fun h => e (by injection h with h; simpa using h)
    simp [e, this]
theorem hd244 : ∀ w, hasDictIn (KF w) 244 = true := fun w => by kernel_rfl
theorem AS_set244 {c : Cx} {k : Nat} {env : Env} {loc : Loc} {H : Own} {pos : Pos} {e1 e : Expr} {name : String} {p1 : Pos} {P : SP} (G : c.Good k) (h5 : ∀ w, takerIn (KF w) 244 (Str.ofString name) = some none) (h : AE c env e loc H fun v H1 => AE c env e1 loc H1 fun v1 H2 => ∃ a fs H3, v1 = .ref a ∧ At a (.inst 244 fs) (.inst 244 (fput name v fs)) H2 H3 ∧ fs.length ≤ 100 ∧ P .next loc H3)
    (hs : swapsWith e (some (.Attribute e1 (Str.ofString name) p1)) pos.line env = pure false := by first | rfl | with_unfolding_all rfl) : AS c env (.Assign [.Attribute e1 (Str.ofString name) p1] e pos) loc H P :=
  AS_setfield G (h.mono fun v H1 h1 => h1.mono fun v1 H2 ⟨a, fs, H3, e, U, hl, hp⟩ => ⟨a, 244, fs, H3, e, U, hl, fun w => by kernel_rfl, fun w => by kernel_rfl, h5, hd244, hp⟩) hs
theorem grow_len (cnt : List Nat) (b : Nat) : b < (grow cnt b).length := by
  unfold grow; split
  · rw [List.length_append, List.length_replicate]; omega
  · omega
theorem grow_le (cnt : List Nat) (b i : Nat) (h1 : cnt.length ≤ i) (h2 : b ≤ i) : (grow cnt b).length ≤ i + 1 := by
  unfold grow; split
  · rw [List.length_append, List.length_replicate]; omega
  · omega
set_option maxHeartbeats 8000000 in
theorem wsinit_spec {k : Nat} {a : Addr} {raw : Str} {H0 : Own} {P : AV → Own → Prop} (hl : raw.length ≤ 1000) (h : P .none ((a, .inst 244 (WsF raw (wsOf raw).n (wsOf raw).nt (wsOf raw).cnt (wsOf raw).b)) :: H0)) :
    AF (k + 1) (.ref 199) [.ref a, .str raw] ((a, .inst 244 []) :: H0) P := by
  refine AF_drop (AF_def (ds := []) ["self", "ws"] ["S", "T", "count", "b", "n", "nt", "ch"] [("self", some (.ref a)), ("ws", some (.str raw)), ("S", none), ("T", none), ("count", none), ("b", none), ("n", none), ("nt", none), ("ch", none)] (fun w => by rfl) (fun w => by rfl) rfl (by decide) ?_ (by decide +kernel) ?_ (by decide))
  · intro w s args' hl hk
    obtain ⟨x, y, rfl⟩ := ln2 hl
    exact ⟨[], BindsTo.of_eq rfl, fun _ _ => .nil⟩
  · intro w os base outer A₀ A h₀ L X Y c G
    refine ASs_cons (AS_set244 G (fun w => by kernel_rfl) ?_)
    refine AE_local (by assumption) (mi 1 rfl) ?_; refine AE_local (by assumption) (.head _) ?_
    refine ⟨a, _, _, rfl, At.head, by decide, ?_⟩
    refine ASs_cons (AS_swap2 G (AE_tuple ?_))
    refine AEs_cons ?_
    refine AE_clsstr (C := 244) (x := " ") G (fun w => by kernel_rfl) ?_
    refine AE_global G (fun w => by kernel_rfl) rfl (fun _ _ => .ref 244) ⟨rfl, ?_⟩
    refine AEs_cons ?_
    refine AE_clsstr (C := 244) (x := "\t") G (fun w => by kernel_rfl) ?_
    refine AE_global G (fun w => by kernel_rfl) rfl (fun _ _ => .ref 244) ⟨rfl, ?_⟩
    refine AEs_nil ?_
    refine ⟨by decide, _, _, rfl, ?_⟩
    (with_reducible refine St1_local (by assumption) (by with_reducible repeat first | exact SetL.head | apply SetL.tail) ?_)
    (with_reducible refine St1_local (by assumption) (by with_reducible repeat first | exact SetL.head | apply SetL.tail) ?_)
    refine ASs_cons (AS_assign (AE_list ?_))
    refine AEs_nil ?_
    refine ⟨by simp, fun q0 => ?_⟩
    (with_reducible refine St1_local (by assumption) (by with_reducible repeat first | exact SetL.head | apply SetL.tail) ?_)
    refine ASs_cons (AS_assign3 ?_)
    refine AE_int ?_
    (with_reducible refine St1_local (by assumption) (by with_reducible repeat first | exact SetL.head | apply SetL.tail) ?_); (with_reducible refine St1_local (by assumption) (by with_reducible repeat first | exact SetL.head | apply SetL.tail) ?_); (with_reducible refine St1_local (by assumption) (by with_reducible repeat first | exact SetL.head | apply SetL.tail) ?_)
    refine ASs_cut2 (fun l H1 => ∃ q cv st, st = wsOf raw ∧ st.cnt.length ≤ 2000 ∧ H1 = (q, .list (nats st.cnt)) :: (a, .inst 244 [("raw", .str raw)]) :: H0 ∧ l = [("self", some (.ref a)), ("ws", some (.str raw)), ("S", some (.str " ")), ("T", some (.str "\t")), ("count", some (.ref q)), ("b", some (.int (st.b : Nat))), ("n", some (.int (st.n : Nat))), ("nt", some (.int (st.nt : Nat))), ("ch", cv)]) (AS_for G ?_) ?_
    · refine AE_attr G ?_
      refine AE_local (by assumption) (.head _) ?_
      refine ⟨a, 244, _, .str raw, rfl, (mi 1 rfl), by simp [fget, fput], rfl, fun w => by kernel_rfl, fun w => by kernel_rfl, fun w => by kernel_rfl, ?_⟩
      refine ⟨_, It_str, fun i l H1 => ∃ q cv st, WSt.run (raw.cps.toList.drop i) st = wsOf raw ∧ st.cnt.length ≤ i ∧ st.b ≤ i ∧ H1 = (q, .list (nats st.cnt)) :: (a, .inst 244 [("raw", .str raw)]) :: H0 ∧ l = [("self", some (.ref a)), ("ws", some (.str raw)), ("S", some (.str " ")), ("T", some (.str "\t")), ("count", some (.ref q)), ("b", some (.int (st.b : Nat))), ("n", some (.int (st.n : Nat))), ("nt", some (.int (st.nt : Nat))), ("ch", cv)], ⟨q0, none, ⟨0, 0, 0, []⟩, rfl, by simp, by simp, rfl, rfl⟩, ?_, ?_⟩
      · rintro X Y i x l H1 hx ⟨q, cv, st, hr, hc, hb, rfl, rfl⟩
        have G' := G.wX (X := X) (Y := Y)
        obtain ⟨ch, hch, rfl⟩ : ∃ ch, raw.cps.toList[i]? = some ch ∧ x = .str ⟨#[ch]⟩ := by
          simp only [signs, List.getElem?_map] at hx
          cases e : raw.cps.toList[i]? with
          | none => rw [e] at hx; cases hx
          | some ch => rw [e] at hx; exact ⟨ch, rfl, (Option.some.inj hx).symm⟩
        have hi : i < raw.cps.toList.length := (List.getElem?_eq_some_iff.mp hch).1
        have hil : i < 1000 := by
          have : raw.cps.toList.length = raw.length := by simp [Str.length]
          omega
        have hd : raw.cps.toList.drop i = ch :: raw.cps.toList.drop (i + 1) := by
          rw [List.drop_eq_getElem_cons hi]
          congr 1
          exact (List.getElem?_eq_some_iff.mp hch).2
        rw [hd] at hr
        refine As1_name ?_
        (with_reducible refine St1_local (by assumption) (by with_reducible repeat first | exact SetL.head | apply SetL.tail) ?_)
        refine ASs_cons (AS_if (AB_compare ?_))
        refine AE_local (by assumption) (mi 8 rfl) ?_; refine AE_local (by assumption) (mi 2 rfl) ?_
        refine OpC_seq ⟨_, rfl, fun he => ?_, fun he => ?_⟩
        · rw [sign_eq ch 32 (Str.ofString " ") (by decide)] at he
          have he := of_decide_eq_true he
          refine ASs_cons (AS_assign ?_)
          refine AE_binop ?_; refine AE_local (by assumption) (mi 6 rfl) ?_; refine AE_int ?_
          refine OpB_add ?_
          (with_reducible refine St1_local (by assumption) (by with_reducible repeat first | exact SetL.head | apply SetL.tail) ?_)
          refine ASs_cons (AS_assign ?_)
          refine AE_binop ?_; refine AE_local (by assumption) (mi 5 rfl) ?_; refine AE_int ?_
          refine OpB_add ?_
          (with_reducible refine St1_local (by assumption) (by with_reducible repeat first | exact SetL.head | apply SetL.tail) ?_)
          refine ASs_nil (ASs_nil ⟨q, some (.str ⟨#[ch]⟩), ⟨st.b + 1, st.n + 1, st.nt, st.cnt⟩, ?_, by show st.cnt.length ≤ _; omega, by show st.b + 1 ≤ _; omega, rfl, ?_⟩)
          · have e : st.step ch = some ⟨st.b + 1, st.n + 1, st.nt, st.cnt⟩ := by simp [WSt.step, he]
            rw [WSt.run, e] at hr
            exact hr
          · simp
        · rw [sign_eq ch 32 (Str.ofString " ") (by decide)] at he
          have he := of_decide_eq_false he
          refine ASs_cons (AS_if (AB_compare ?_))
          refine AE_local (by assumption) (mi 8 rfl) ?_; refine AE_local (by assumption) (mi 3 rfl) ?_
          refine OpC_seq ⟨_, rfl, fun he2 => ?_, fun he2 => ?_⟩
          · rw [sign_eq ch 9 (Str.ofString "\t") (by decide)] at he2
            have he2 := of_decide_eq_true he2
            refine ASs_cons (AS_assign ?_)
            refine AE_binop ?_; refine AE_local (by assumption) (mi 6 rfl) ?_; refine AE_int ?_
            refine OpB_add ?_
            (with_reducible refine St1_local (by assumption) (by with_reducible repeat first | exact SetL.head | apply SetL.tail) ?_)
            refine ASs_cons (AS_assign ?_)
            refine AE_binop ?_; refine AE_local (by assumption) (mi 7 rfl) ?_; refine AE_int ?_
            refine OpB_add ?_
            (with_reducible refine St1_local (by assumption) (by with_reducible repeat first | exact SetL.head | apply SetL.tail) ?_)
            refine ASs_cut2 (fun l H1 => ∃ q1, H1 = (q1, .list (nats (grow st.cnt st.b))) :: (a, .inst 244 [("raw", .str raw)]) :: H0 ∧ l = [("self", some (.ref a)), ("ws", some (.str raw)), ("S", some (.str " ")), ("T", some (.str "\t")), ("count", some (.ref q1)), ("b", some (.int (st.b : Nat))), ("n", some (.int ((st.n : Nat) + 1))), ("nt", some (.int ((st.nt : Nat) + 1))), ("ch", some (.str ⟨#[ch]⟩))]) (AS_if (AB_compare ?_)) ?_
            · refine AE_local (by assumption) (mi 5 rfl) ?_
              refine AE_callb "len" ?_
              with_reducible refine AE_builtin (by assumption) (fun _ => by with_unfolding_all rfl) (by with_unfolding_all rfl) (by decide) (by with_unfolding_all rfl) ?_
              refine ⟨rfl, ?_⟩
              refine AEs_cons ?_; refine AE_local (by assumption) (mi 4 rfl) ?_; refine AEs_nil ?_
              refine OpCall_len_own (.head _) (by simp; omega) ?_
              refine OpC_ge ⟨_, rfl, fun hg => ?_, fun hg => ?_⟩
              · have hg : st.cnt.length ≤ st.b := by simpa using hg
                refine ASs_cons (AS_assign (AE_weak ?_))
                refine AE_binop ?_; refine AE_local (by assumption) (mi 4 rfl) ?_; refine AE_binop ?_
                refine AE_list ?_
                refine AEs_cons ?_; refine AE_int ?_; refine AEs_nil ?_
                refine ⟨by simp, fun q2 => ?_⟩
                refine AE_binop ?_; refine AE_binop ?_; refine AE_local (by assumption) (mi 5 rfl) ?_
                refine AE_callb "len" ?_
                with_reducible refine AE_builtin (by assumption) (fun _ => by with_unfolding_all rfl) (by with_unfolding_all rfl) (by decide) (by with_unfolding_all rfl) ?_
                refine ⟨rfl, ?_⟩
                refine AEs_cons ?_; refine AE_local (by assumption) (mi 4 rfl) ?_; refine AEs_nil ?_
                refine OpCall_len_own (l := nats st.cnt) (mi 1 rfl) (by simp; omega) ?_
                refine OpB_sub ?_
                refine AE_int ?_
                refine OpB_add ?_
                refine OpB_lmul (.head _) (by simp; omega) (by simp; omega) fun q3 => ?_
                refine OpB_ladd (l := nats st.cnt) (mi 2 rfl) (.head _) (by simp; omega) fun q4 => ?_
                refine ⟨_, .cons_cons _ (.cons _ (.cons _ (.cons _ (List.Sublist.refl _)))), ?_⟩
                (with_reducible refine St1_local (by assumption) (by with_reducible repeat first | exact SetL.head | apply SetL.tail) ?_)
                refine ASs_nil ⟨q4, ?_, rfl⟩
                have e1 : ((st.b : Int) - ((nats st.cnt).length : Int) + 1).toNat = st.b - st.cnt.length + 1 := by simp; omega
                rw [e1]
                simp [grow, hg, nats]
              · have hg : ¬ st.cnt.length ≤ st.b := by simpa using hg
                refine ASs_nil ⟨q, ?_, rfl⟩
                simp [grow, hg]
            · rintro l H1 ⟨q1, rfl, rfl⟩
              have hgl := grow_len st.cnt st.b
              have hgu := grow_le st.cnt st.b i hc hb
              generalize hg : grow st.cnt st.b = g at hgl hgu
              refine ASs_cons (AS_setitem ?_)
              refine AE_binop ?_; refine AE_subg ?_; refine AE_local (by assumption) (mi 4 rfl) ?_; refine AE_local (by assumption) (mi 5 rfl) ?_
              refine ⟨NoPy_own (.head _), OpG_own (j := 0) (x := .int (g[st.b] : Nat)) (.head _) (by omega) (by omega) (by simp [nats, hgl]) ?_⟩
              refine AE_int ?_
              refine OpB_add ?_
              refine AE_local (by assumption) (mi 4 rfl) ?_; refine AE_local (by assumption) (mi 5 rfl) ?_
              refine OpS_own (l := nats g) (H' := (q1, .list (nats (g.set st.b (g[st.b] + 1)))) :: (a, .inst 244 [("raw", .str raw)]) :: H0) ?_ (by omega) (by omega) (by simp; omega) ?_
              · have e1 : nats (g.set st.b (g[st.b] + 1)) = (nats g).set ((st.b : Int).toNat) (.int ((g[st.b] : Nat) + 1)) := by
                  simp [nats, List.map_set]
                rw [e1]; exact At.head
              refine ASs_cons (AS_assign ?_)
              refine AE_int ?_
              (with_reducible refine St1_local (by assumption) (by with_reducible repeat first | exact SetL.head | apply SetL.tail) ?_)
              refine ASs_nil (ASs_nil (ASs_nil ⟨q1, some (.str ⟨#[ch]⟩), ⟨0, st.n + 1, st.nt + 1, bump st.cnt st.b⟩, ?_, ?_, by simp, ?_, ?_⟩))
              · have e : st.step ch = some ⟨0, st.n + 1, st.nt + 1, bump st.cnt st.b⟩ := by simp [WSt.step, he2]
                rw [WSt.run, e] at hr
                exact hr
              · simp only [bump, List.length_set, hg]; exact hgu
              · simp only [bump, hg]
                rw [List.getD_eq_getElem?_getD, List.getElem?_eq_getElem hgl]; rfl
              · simp
          · rw [sign_eq ch 9 (Str.ofString "\t") (by decide)] at he2
            have he2 := of_decide_eq_false he2
            refine ASs_cons (AS_break ?_)
            have e : st.step ch = none := by simp [WSt.step, he, he2]
            rw [WSt.run, e] at hr
            exact ⟨q, _, st, hr, by omega, rfl, rfl⟩
      · rintro l H1 ⟨q, cv, st, hr, hc, hb, rfl, rfl⟩
        have e1 : (signs raw).length = raw.cps.toList.length := by simp [signs]
        rw [e1] at hr hc
        rw [List.drop_length] at hr
        refine ASs_nil ⟨q, cv, st, hr, ?_, rfl, rfl⟩
        have : raw.cps.toList.length = raw.length := by simp [Str.length]
        omega
    · rintro l H1 ⟨q, cv, st, hst, hc, rfl, rfl⟩
      refine ASs_cons (AS_set244 G (fun w => by kernel_rfl) ?_)
      refine AE_local (by assumption) (mi 6 rfl) ?_; refine AE_local (by assumption) (.head _) ?_
      refine ⟨a, _, _, rfl, At.tail At.head, by simp [fput], ?_⟩
      refine ASs_cons (AS_set244 G (fun w => by kernel_rfl) ?_)
      refine AE_local (by assumption) (mi 7 rfl) ?_; refine AE_local (by assumption) (.head _) ?_
      refine ⟨a, _, _, rfl, At.tail At.head, by simp [fput], ?_⟩
      refine ASs_cons (AS_set244 G (fun w => by kernel_rfl) (AE_tuple ?_))
      refine AEs_cons ?_
      refine AE_callt "tuple" ?_
      with_reducible refine AE_builtin (by assumption) (fun _ => by with_unfolding_all rfl) (by with_unfolding_all rfl) (by decide) (by with_unfolding_all rfl) ?_
      refine ⟨rfl, ?_⟩
      refine AEs_cons ?_; refine AE_local (by assumption) (mi 4 rfl) ?_; refine AEs_nil ?_
      refine OpCall_tuple_own (.head _) (by simp; omega) ?_
      refine AEs_cons ?_; refine AE_local (by assumption) (mi 5 rfl) ?_; refine AEs_nil ?_
      refine ⟨by simp, ?_⟩
      refine AE_local (by assumption) (.head _) ?_
      refine ⟨a, _, _, rfl, At.tail At.head, by simp [fput], ?_⟩
      refine ASs_cons (AS_set244 G (fun w => by kernel_rfl) ?_)
      refine AE_compare ?_
      refine AE_callb "len" ?_
      with_reducible refine AE_builtin (by assumption) (fun _ => by with_unfolding_all rfl) (by with_unfolding_all rfl) (by decide) (by with_unfolding_all rfl) ?_
      refine ⟨rfl, ?_⟩
      refine AEs_cons ?_; refine AE_local (by assumption) (mi 4 rfl) ?_; refine AEs_nil ?_
      refine OpCall_len_own (.head _) (by simp; omega) ?_
      refine AE_int ?_
      refine OpC_le ?_
      refine AE_local (by assumption) (.head _) ?_
      refine ⟨a, _, _, rfl, At.tail At.head, by simp [fput], ASs_nil ⟨_, _, rfl, ?_⟩⟩
      rw [← hst] at h
      have e2 : (decide ((st.cnt.length : Int) ≤ 1)) = decide (st.cnt.length ≤ 1) := decide_eq_decide.mpr (by omega)
      simpa [fput, WsF, nats, e2] using h
end
section
noncomputable abbrev prs (ps : List (Int × Int)) : List AV := ps.map fun p => .tup [.int p.1, .int p.2]
noncomputable def posGaps (ps : List (Int × Int)) : List Int := (ps.filter fun p => decide (p.2 > 0)).map (·.1)
noncomputable def cstep (cs : List Int) (p : Int × Int) : List Int := if p.2 > 0 then cs.set (p.1 - 1).toNat (cs.getD (p.1 - 1).toNat 0 + p.2) else cs
noncomputable def cfold (ps : List (Int × Int)) (M : Int) : List Int := ps.foldl cstep (List.replicate M.toNat 0)
theorem cstep_len (cs : List Int) (p : Int × Int) : (cstep cs p).length = cs.length := by unfold cstep; split <;> simp
theorem fold_len : ∀ (qs : List (Int × Int)) (cs : List Int), (qs.foldl cstep cs).length = cs.length
  | [], cs => rfl
  | p :: r, cs => by rw [List.foldl_cons, fold_len r, cstep_len]
theorem names1 {l : Loc} {x : String} (h : l.map (·.1) = [x]) : ∃ u, l = [(x, u)] := by
  obtain ⟨p, r, rfl, rfl, hr⟩ := List.map_eq_cons_iff.mp h
  obtain rfl := List.map_eq_nil_iff.mp hr
  exact ⟨p.2, rfl⟩
theorem names2 {l : Loc} {x y : String} (h : l.map (·.1) = [x, y]) : ∃ u v, l = [(x, u), (y, v)] := by
  obtain ⟨p, r, rfl, rfl, hr⟩ := List.map_eq_cons_iff.mp h
  obtain ⟨v, rfl⟩ := names1 hr
  exact ⟨p.2, v, rfl⟩
theorem filterMap_range {α β : Type} (l : List α) (f : α → Option β) : (List.range l.length).filterMap (fun i => (l[i]?).bind f) = l.filterMap f := by
  induction l with
  | nil => rfl
  | cons x l ih =>
    rw [List.length_cons, List.range_succ_eq_map, List.filterMap_cons, List.filterMap_map, List.filterMap_cons]
    have e : ((fun i => ((x :: l)[i]?).bind f) ∘ Nat.succ) = fun i => (l[i]?).bind f := by funext i; simp
    rw [e, ih]; simp
set_option maxHeartbeats 8000000 in
theorem counts_spec {k : Nat} {ps : List (Int × Int)} {H : Own} {P : AV → Own → Prop} (hl : ps.length ≤ 100) (hp : ∀ p ∈ ps, p.2 > 0 → 1 ≤ p.1 ∧ p.1 ≤ 1000) (hne : 0 < (posGaps ps).length)
    (h : ∀ M, M ∈ posGaps ps → (∀ a ∈ posGaps ps, a ≤ M) → P (.tup ((cfold ps M).map AV.int)) H) : AF (k + 1) (.ref 300) [.lst (prs ps)] H P := by
  refine AF_drop (AF_def (ds := []) ["pairs"] ["counts", "gap", "many"] [("pairs", some (.lst (prs ps))), ("counts", none), ("gap", none), ("many", none)] (fun w => by rfl) (fun w => by rfl) rfl (by decide) ?_ (by decide +kernel) ?_ (by decide))
  · intro w s args' hl hk
    obtain ⟨x, rfl⟩ := ln1 hl
    exact ⟨[], BindsTo.of_eq rfl, fun _ _ => .nil⟩
  · intro w os base outer A₀ A h₀ L X Y c G
    refine ASs_cons (AS_assign (AE_weak ?_))
    refine AE_binop ?_
    refine AE_list ?_
    refine AEs_cons ?_; refine AE_int ?_; refine AEs_nil ?_
    refine ⟨by simp, fun q1 => ?_⟩
    refine AE_callb "max" ?_
    with_reducible refine AE_builtin (by assumption) (fun _ => by with_unfolding_all rfl) (by with_unfolding_all rfl) (by decide) (by with_unfolding_all rfl) ?_
    refine ⟨rfl, ?_⟩
    refine AEs_cons ?_
    refine AE_listcomp (cl := []) G ["gap", "many"] (by rfl) ?_
    refine AE_local (by assumption) (.head _) ?_
    refine ⟨prs ps, fun i => (ps[i]?).bind fun p => if p.2 > 0 then some (.int p.1) else none, It_lst, by simp; omega, ?_, ?_⟩
    · intro X Y C D l i x ys hx hl
      have G' := G.wX (X := X) (Y := Y)
      obtain ⟨u, v, rfl⟩ := names2 hl
      obtain ⟨p, hpi, rfl⟩ : ∃ p, ps[i]? = some p ∧ x = .tup [.int p.1, .int p.2] := by
        simp only [prs, List.getElem?_map] at hx
        cases e : ps[i]? with
        | none => rw [e] at hx; cases hx
        | some p => rw [e] at hx; exact ⟨p, rfl, (Option.some.inj hx).symm⟩
      refine As1_tup2 G' ?_
      refine St1_ns rfl (by first | rfl | with_unfolding_all rfl) (by first | rfl | with_unfolding_all rfl) At.head SetL.head ?_
      refine St1_ns rfl (by first | rfl | with_unfolding_all rfl) (by first | rfl | with_unfolding_all rfl) At.head (SetL.tail SetL.head) ?_
      refine ⟨rfl, _, rfl, rfl, ATs_one (AB_compare ?_)⟩
      (refine AE_ns (by with_unfolding_all rfl) rfl (.head _) (mi 1 rfl) (by with_unfolding_all rfl) ?_)
      refine AE_int ?_
      refine OpC_gt ⟨_, rfl, rfl, fun hb => ?_, fun hb => ?_⟩
      · (refine AE_ns (by with_unfolding_all rfl) rfl (.head _) (.head _) (by with_unfolding_all rfl) ?_)
        refine ⟨rfl, ?_⟩
        have hb : p.2 > 0 := by simpa using hb
        simp [hpi, hb]
      · have hb : ¬ p.2 > 0 := by simpa using hb
        simp [hpi, hb]
    · refine AEs_nil ?_
      have e0 : ((List.range (prs ps).length).filterMap fun i => (ps[i]?).bind fun p => if p.2 > 0 then some (AV.int p.1) else none) = (posGaps ps).map AV.int := by
        have e1 : (prs ps).length = ps.length := by simp
        rw [e1, filterMap_range ps (fun p => if p.2 > 0 then some (AV.int p.1) else none)]
        clear hl hp hne h e1
        induction ps with
        | nil => rfl
        | cons p r ih =>
          rw [List.filterMap_cons, ih]
          by_cases hb : p.2 > 0 <;> simp [posGaps, hb]
      rw [e0]
      refine OpCall_max_lst G hne fun M hM1 hM2 => ?_
      have hM : 1 ≤ M ∧ M ≤ 1000 := by
        simp only [posGaps, List.mem_map, List.mem_filter] at hM1
        obtain ⟨p, ⟨hp1, hp2⟩, rfl⟩ := hM1
        exact hp p hp1 (by simpa using hp2)
      have hgap : ∀ p ∈ ps, p.2 > 0 → 1 ≤ p.1 ∧ p.1 ≤ M := fun p h1 h2 => ⟨(hp p h1 h2).1, hM2 _ (List.mem_map.mpr ⟨p, List.mem_filter.mpr ⟨h1, by simpa using h2⟩, rfl⟩)⟩
      have h := h M hM1 hM2
      refine OpB_lmul (.head _) (by omega) (by omega) fun q2 => ?_
      refine ⟨_, .cons_cons _ (.cons _ (List.Sublist.refl _)), ?_⟩
      (with_reducible refine St1_local (by assumption) (by with_reducible repeat first | exact SetL.head | apply SetL.tail) ?_)
      refine ASs_cut2 (fun l H1 => ∃ gv mv, H1 = (q2, .list ((cfold ps M).map AV.int)) :: H ∧ l = [("pairs", some (.lst (prs ps))), ("counts", some (.ref q2)), ("gap", gv), ("many", mv)]) (AS_for G ?_) ?_
      · refine AE_local (by assumption) (.head _) ?_
        refine ⟨_, It_lst, fun i l H1 => ∃ gv mv cs, cs = (ps.take i).foldl cstep (List.replicate M.toNat 0) ∧ H1 = (q2, .list (cs.map AV.int)) :: H ∧ l = [("pairs", some (.lst (prs ps))), ("counts", some (.ref q2)), ("gap", gv), ("many", mv)], ⟨none, none, _, rfl, by simp [List.map_replicate], rfl⟩, ?_, ?_⟩
        · rintro X Y i x l H1 hx ⟨gv, mv, cs, hcs, rfl, rfl⟩
          have G' := G.wX (X := X) (Y := Y)
          obtain ⟨p, hpi, rfl⟩ : ∃ p, ps[i]? = some p ∧ x = .tup [.int p.1, .int p.2] := by
            simp only [prs, List.getElem?_map] at hx
            cases e : ps[i]? with
            | none => rw [e] at hx; cases hx
            | some p => rw [e] at hx; exact ⟨p, rfl, (Option.some.inj hx).symm⟩
          have hclen : cs.length = M.toNat := by
            rw [hcs, fold_len, List.length_replicate]
          have hnext : (ps.take (i + 1)).foldl cstep (List.replicate M.toNat 0) = cstep cs p := by
            rw [List.take_add_one, hpi, List.foldl_append, ← hcs]; rfl
          refine As1_tup2 G' ?_
          (with_reducible refine St1_local (by assumption) (by with_reducible repeat first | exact SetL.head | apply SetL.tail) ?_)
          (with_reducible refine St1_local (by assumption) (by with_reducible repeat first | exact SetL.head | apply SetL.tail) ?_)
          refine ASs_cons (AS_if (AB_compare ?_))
          refine AE_local (by assumption) (mi 3 rfl) ?_; refine AE_int ?_
          refine OpC_gt ⟨_, rfl, fun hb => ?_, fun hb => ?_⟩
          · have hb : p.2 > 0 := by simpa using hb
            obtain ⟨g1, g2⟩ := hgap p (List.mem_of_getElem? hpi) hb
            have hj : (p.1 - 1).toNat < cs.length := by omega
            refine ASs_cons (AS_augsub ?_)
            refine AE_local (by assumption) (mi 1 rfl) ?_; refine AE_binop ?_; refine AE_local (by assumption) (mi 2 rfl) ?_; refine AE_int ?_
            refine OpB_sub ?_
            refine OpG_own (j := 0) (x := .int cs[(p.1 - 1).toNat]) (.head _) (by omega) (by omega) (by rw [List.getElem?_map, List.getElem?_eq_getElem hj]; rfl) ?_
            refine AE_local (by assumption) (mi 3 rfl) ?_
            refine OpI_add ?_
            refine OpS_own (l := cs.map AV.int) (H' := (q2, .list ((cs.set (p.1 - 1).toNat (cs[(p.1 - 1).toNat] + p.2)).map AV.int)) :: H) (by rw [List.map_set]; exact At.head) (by omega) (by omega) (by simp; omega) ?_
            refine ASs_nil (ASs_nil ⟨_, _, _, rfl, ?_, rfl⟩)
            rw [hnext]
            simp only [cstep, if_pos hb]
            rw [List.getD_eq_getElem?_getD, List.getElem?_eq_getElem hj]; rfl
          · have hb : ¬ p.2 > 0 := by simpa using hb
            refine ASs_nil (ASs_nil ⟨_, _, _, rfl, ?_, rfl⟩)
            rw [hnext]
            simp only [cstep, if_neg hb]
        · rintro l H1 ⟨gv, mv, cs, hcs, rfl, rfl⟩
          refine ASs_nil ⟨gv, mv, ?_, rfl⟩
          rw [hcs]
          have e1 : (prs ps).length = ps.length := by simp
          rw [e1, List.take_length]; rfl
      · rintro l H1 ⟨gv, mv, rfl, rfl⟩
        refine ASs_cons (AS_return (AE_callt "tuple" ?_))
        with_reducible refine AE_builtin (by assumption) (fun _ => by with_unfolding_all rfl) (by with_unfolding_all rfl) (by decide) (by with_unfolding_all rfl) ?_
        refine ⟨rfl, ?_⟩
        refine AEs_cons ?_; refine AE_local (by assumption) (mi 1 rfl) ?_; refine AEs_nil ?_
        refine OpCall_tuple_own (.head _) ?_ ⟨_, _, rfl, h⟩
        rw [List.length_map, cfold, fold_len, List.length_replicate]; omega
end
section
open PySem PySem.W PyProof.Rows PySem.Calls PySem.Spec PyProof.V
noncomputable def dAt (D : List (PyData × PyData)) (y : Str) : Option PyData := (D.find? fun q => match q.1 with | .str x => decide (x = y) | _ => false).map (·.2)
theorem valueAt_of {kvs : List (Str × Value)} {D : List (PyData × PyData)} (f : FlatPairs PyData.str kvs D) {y z : Str} (h : dAt D y = some (.str z)) : ∃ t, valueAt kvs y = some (.str z t) := by
  induction f with
  | nil => simp [dAt] at h
  | @cons k v d kvs D hv _ ih =>
    by_cases e : k = y
    · subst e
      simp [dAt] at h
      subst h
      cases hv (default : Heap) with
      | str _ t => exact ⟨t, by simp [valueAt]⟩
    · have h' : dAt D y = some (.str z) := by simpa [dAt, e] using h
      obtain ⟨t, ht⟩ := ih h'
      exact ⟨t, by simpa [valueAt, e] using ht⟩
theorem AE_dictsub {c : Cx} {k : Nat} {env : Env} {keys : List (Option Expr)} {values : List Expr} {dpos pos : Pos} {e2 : Expr} {D : List (PyData × PyData)} {loc : Loc} {H : Own} {P : AV → Own → Prop}
    (G : c.Good k) (hD : litPairs keys values = some D) (hs : strKeyed D = true) (hn : (strKeysOf D).Nodup) (hall : keys.all (·.isSome) = true) (hl : keys.length = values.length) (h0 : keys ≠ []) (hlen : keys.length ≤ 15)
    (h : ∀ Y, AE (c.wX c.X Y) env e2 loc H fun v H1 => ∃ y z, v = .str y ∧ dAt D y = some (.str z) ∧ P (.str z) H1)
    (hsub : ∀ (d key : Value), subscripted e2 false d key = operate [d, key] (getItem d key) := by first | (intros; rfl) | (intros; with_unfolding_all rfl)) :
    AE c env (.Subscript (.Dict keys values dpos) e2 pos) loc H P := fun T s R =>
  Subscript_ (Dict_lits_str hD hs hn hall hl h0 hlen fun a o h₁ tk ha ho ⟨kvs, hk, hf⟩ hkeep => by
    obtain ⟨N, es, m, R⟩ := R
    have F1 : Fr c.h₀ c.L h₁ m := R.F.grownK hkeep
    have lt : ∀ p ∈ N ++ es, p.1 < a := fun p hp => Nat.lt_of_lt_of_le (Heap.lt_size (R.nw p hp).1) ha
    have N1 : News c.h₀ c.L h₁ ((a, o) :: (N ++ es)) := by
      intro p hp
      rcases List.mem_cons.mp hp with rfl | hp
      · refine ⟨ho, Nat.ne_of_gt (Nat.lt_of_lt_of_le R.F.ns.lt ha), ?_⟩
        cases hq : c.h₀.get? a with
        | none => rfl
        | some o' => exact absurd (Heap.lt_size (R.F.keep _ _ hq)) (Nat.not_lt.mpr ha)
      · exact ⟨hkeep _ _ (R.nw p hp).1, (R.nw p hp).2⟩
    have R1 := R.newN (tk := tk) F1 N1 lt
    have R2 : Rep (c.wX c.X ((a, o) :: N)) loc H T { s with heap := h₁, toks := tk } := ⟨_, es, m, R1.F, R1.nw, R1.nd, R1.own, fun p hp => hp, R1.tmp, R1.loc, R1.gens, R1.os⟩
    refine thenW (c := c.wX c.X ((a, o) :: N)) (h ((a, o) :: N) _ _ R2) fun v' s2 v H1 R3 ⟨y, z, e, hz, hp⟩ => ?_
    subst e
    obtain ⟨t, rfl⟩ := R3.isStr (.head _)
    obtain ⟨t2, hv⟩ := valueAt_of hf hz
    obtain ⟨N3, es3, m3, R3⟩ := R3
    have hm := R3.yk (a, o) (.head _)
    refine kdt_tail (knd := PySem.strKind _ _) R3.nw (List.mem_append_left _ hm) hk (kdt_getItem (knd := PySem.strKind _ _) R3.nw (List.mem_append_left _ hm) hk (strKind_is _ _ _ _) hv ⟨.str z, H1, ?_, hp⟩) (hsub _ _)
    have R4 : RepW c loc H1 ((.str y, .str y t) :: T) s2 N3 es3 m3 := ⟨R3.F, R3.nw, R3.nd, R3.own, fun p hp => R3.yk p (.tail _ (R.yk p hp)), R3.tmp, R3.loc, R3.gens, R3.os⟩
    exact ((((R4.put (.str z t2))).sub fun p hp => by
      rcases List.mem_cons.mp hp with rfl | hp
      · exact .head _
      · exact .tail _ (.tail _ hp)).tok (tk := s2.toks + 1)).rep)
noncomputable def namesA : List (PyData × PyData) := [(.str "\t", .str "&#09;"), (.str "\n", .str "&#10;"), (.str "\r", .str "&#13;"), (.str "&", .str "&amp;"), (.str "<", .str "&lt;"), (.str ">", .str "&gt;"), (.str "\"", .str "&quot;")]
noncomputable def namesC : List (PyData × PyData) := [(.str "\t", .str "&#x9;"), (.str "\n", .str "&#xA;"), (.str "\r", .str "&#xD;"), (.str "&", .str "&amp;"), (.str "<", .str "&lt;"), (.str ">", .str ">"), (.str "\"", .str "&quot;")]
theorem nA1 : strKeyed namesA = true := by decide
theorem nA2 : (strKeysOf namesA).Nodup := by decide +kernel
theorem nC1 : strKeyed namesC = true := by decide
theorem nC2 : (strKeysOf namesC).Nodup := by decide +kernel
set_option maxHeartbeats 4000000 in
theorem name_spec {k : Nat} {y z : Str} {plain : Bool} {H : Own} {P : AV → Own → Prop} (hz : dAt (if plain = true then namesA else namesC) y = some (.str z)) (h : P (.str z) H) :
    AF (k + 1) (.ref 307) [.str y, .bool plain] H P := by
  refine AF_def (ds := []) ["sign", "plain"] [] [("sign", some (.str y)), ("plain", some (.bool plain))] (fun w => by rfl) (fun w => by rfl) rfl (by decide) ?_ (by decide +kernel) ?_ (by decide)
  · intro w s args' hl hk
    obtain ⟨x, y, rfl⟩ := ln2 hl
    exact ⟨[], BindsTo.of_eq rfl, fun _ _ => .nil⟩
  · intro w os base outer A₀ A h₀ L X Y c G
    refine ASs_cons (AS_if (AB_plain ?_))
    refine AE_local (by assumption) (mi 1 rfl) ?_
    refine OpT_bool ⟨fun hb => ?_, fun hb => ASs_nil ?_⟩
    · rw [if_pos hb] at hz
      with_reducible refine ASs_cons ?_
      with_reducible refine AS_return ?_
      with_reducible refine AE_dictsub (D := namesA) G ?_ nA1 nA2 ?_ ?_ ?_ ?_ ?_ (fun _ _ => rfl)
      · kernel_rfl
      · kernel_rfl
      · rfl
      · simp
      · decide
      · intro Y
        have G' := G.wX (X := c.X) (Y := Y)
        show AE (c.wX c.X Y) (c.wX c.X Y).env _ _ _ _
        refine AE_local (by assumption) (.head _) ?_
        exact ⟨_, _, rfl, hz, h⟩
    · rw [if_neg (by simp [hb])] at hz
      with_reducible refine ASs_cons ?_
      with_reducible refine AS_return ?_
      with_reducible refine AE_dictsub (D := namesC) G ?_ nC1 nC2 ?_ ?_ ?_ ?_ ?_ (fun _ _ => rfl)
      · kernel_rfl
      · kernel_rfl
      · rfl
      · simp
      · decide
      · intro Y
        have G' := G.wX (X := c.X) (Y := Y)
        show AE (c.wX c.X Y) (c.wX c.X Y).env _ _ _ _
        refine AE_local (by assumption) (.head _) ?_
        exact ⟨_, _, rfl, hz, h⟩
end
section
theorem AE_view {c : Cx} {env : Env} {e : Expr} {loc : Loc} {H : Own} {P : AV → Own → Prop} (h : AE c env e loc H fun v H1 => ∃ x t, v = .val (.str x t) ∧ P (.str x) H1) : AE c env e loc H P := fun T s R =>
  thenW (h T s R) fun v' s1 v H1 R1 ⟨x, t, hv, hp⟩ => by
    subst hv
    obtain rfl := R1.isVal (.head _)
    obtain ⟨N, es, m, R1⟩ := R1
    exact ⟨_, _, ((R1.put (.str x t)).sub fun p hp => by
      rcases List.mem_cons.mp hp with rfl | hp
      · exact .head _
      · exact .tail _ (.tail _ hp)).rep, hp⟩
noncomputable def sslice (x : Str) (lo hi st : Option Int) : Str :=
  if (st.getD 1 == 1 && (Builtin.Str.strSliceIndices lo hi (st.getD 1) x.length).length == x.length) = true then x else ⟨((Builtin.Str.strSliceIndices lo hi (st.getD 1) x.length).filterMap (x.cps[·]?)).toArray⟩
theorem part_of {v : Value} {lo : Option Int} (h : IsPart v lo) : ∃ l : Option (Int × Tok), v = partValue l ∧ l.map (·.1) = lo := by
  cases h with
  | none => exact ⟨none, rfl, rfl⟩
  | int i t => exact ⟨some (i, t), rfl, rfl⟩
theorem sliceMade_eq (x : Str) (t : Tok) (l u st : Option (Int × Tok)) : (sliceMade x t l u st = .val (.str x t) ∧ sslice x (l.map (·.1)) (u.map (·.1)) (st.map (·.1)) = x) ∨ sliceMade x t l u st = .str (sslice x (l.map (·.1)) (u.map (·.1)) (st.map (·.1))) := by
  unfold sliceMade sslice slicePicked
  split
  · exact .inl ⟨rfl, rfl⟩
  · exact .inr rfl
section
variable {c : Cx} {env : Env} {loc loc' : Loc} {H H' : Own} {P : AV → Own → Prop} {T : Tmp} {s : Shared} {i j : Int} {x y z : Str} {b : Bool} {a : Addr} {l l' : List AV} {k : Nat} {pos : Pos}
theorem OpG_strslc {lo hi st : Option Int} (h0 : (st.getD 1 == 0) = false) (hz : (sslice x lo hi st).length ≤ sizeLine) (h : P (.str (sslice x lo hi st)) H) : OpG c (.str x) (.slc lo hi st) loc H P := fun T s v1' v2' R m1 m2 => by
  obtain ⟨t, rfl⟩ := R.isStr m1
  obtain ⟨N, es, m, R⟩ := R
  obtain ⟨q, u, v, w, rfl, hN, p1, p2, p3⟩ := (R.tmp _ m2).slc_inv
  · obtain ⟨l, rfl, rfl⟩ := part_of p1
    obtain ⟨r, rfl, rfl⟩ := part_of p2
    obtain ⟨d, rfl, rfl⟩ := part_of p3
    refine wpAny_getItem_str_slice (l := l) (u := r) (st := d) ⟨_, (R.nw _ (List.mem_append_left _ hN)).1, rfl, rfl⟩ h0 ?_
    rcases sliceMade_eq x t l r d with ⟨e1, e2⟩ | e1
    · rw [e1]
      rw [e2] at h
      exact ⟨_, _, (R.put (.str x t)).rep, h⟩
    · rw [e1]
      exact ⟨hz, _, _, (R.tok.put (.str _ _)).rep, h⟩
theorem OpG_lst_from {j : Nat} (hj : j ≤ l.length) (hl : l.length ≤ 1000000) (h : P (.lst (l.drop j)) H) : OpG c (.lst l) (.slc (some (j : Int)) none none) loc H P := fun T s v1' v2' R m1 m2 => by
  obtain ⟨N, es, m, R⟩ := R
  obtain ⟨ax, vs, n, rfl, hN, hv⟩ := (R.tmp _ m1).lst_inv
  · cases R.tmp _ m2 with
    | @slc q _ _ _ u v w hN2 p1 p2 p3 =>
      have hvl := hv.length
      refine wpAny_getItem_list_slice ⟨_, (R.nw _ (List.mem_append_left _ hN)).1, rfl, n, rfl⟩ ⟨_, (R.nw _ (List.mem_append_left _ hN2)).1, rfl, rfl⟩ p1 p2 p3 (by simp) ?_ (by rw [List.size_toArray, hvl]; exact Nat.le_trans hl (by decide))
      rw [slicePick_from vs.toArray j (by rw [List.size_toArray, hvl]; exact hj)]
      have R2 := R.newN (tk := s.toks) (R.F.push (W.listOf (vs.drop j).toArray 0)) (News.push R.F R.nw _ rfl) fun p hp => Heap.lt_size (R.nw p hp).1
      exact ⟨_, _, (R2.put (.lst (.head _) ((hv.monoN fun p hp => .tail _ hp).drop _))).rep, h⟩
theorem OpCall_join_lst {sep : Str} {ls : List Str} (hok : (ls.map (·.length)).sum + ls.length * sep.length ≤ 16777216) (h : P (.str (Str.join sep ls)) H) : OpCall c (.builtin "str.join") [.str sep, .lst (ls.map AV.str)] loc H P := fun T s vs' R hA => by
  obtain ⟨_, _, rfl, m1, m2⟩ := hA.two
  ·   obtain ⟨t, rfl⟩ := R.isStr m1
      obtain ⟨N, es, m, R⟩ := R
      obtain ⟨ax, vs, n, rfl, hN, hv⟩ := (R.tmp _ m2).lst_inv
      · refine join_list (ys := ls) ⟨_, (R.nw _ (List.mem_append_left _ hN)).1, rfl, n, rfl⟩ (by simpa using hv.strs) hok fun t' k' => ⟨_, H, ?_, h⟩
        rw [tjoin]
        exact R.tok.rep.str _ _
end
structure RSt where
  done : List Str
  last : Str
  head : Int
noncomputable def wholeE (e last : Str) : Bool := decide (sslice last (some (-1)) none none = e)
noncomputable def rstep (width : Int) (e : Str) (st : RSt) (p : Str) : RSt :=
  if width < st.head + (st.last ++ p).length ∧ (wholeE e st.last = true ∨ 0 < st.head) then ⟨st.done ++ [st.last], if wholeE e st.last = true ∨ Txt.item p 0 = "\t" then p else " " ++ p, 0⟩ else ⟨st.done, st.last ++ p, st.head⟩
noncomputable def rfold (width : Int) (e : Str) (parts : List Str) (head : Int) : RSt := parts.foldl (rstep width e) ⟨[], "", head⟩
noncomputable def RSt.rows (st : RSt) : List Str := st.done ++ [st.last]
noncomputable def RSt.sz (st : RSt) : Nat := (st.done.map (·.length)).sum + st.last.length
theorem slen_app (x y : Str) : (x ++ y).length = x.length + y.length := by
  show (x.cps ++ y.cps).size = _
  rw [Array.size_append]; rfl
theorem rstep_sz (width : Int) (e : Str) (st : RSt) (p : Str) : (rstep width e st p).sz ≤ st.sz + p.length + 1 ∧ (rstep width e st p).done.length ≤ st.done.length + 1 := by
  unfold rstep
  split
  · constructor
    · simp only [RSt.sz, List.map_append, List.sum_append, List.map_cons, List.map_nil, List.sum_cons, List.sum_nil]
      split
      · omega
      · rw [slen_app]; have : (" " : Str).length = 1 := rfl; omega
    · simp
  · constructor
    · simp only [RSt.sz, slen_app]; omega
    · simp
theorem rfold_sz (width : Int) (e : Str) : ∀ (parts : List Str) (st : RSt), (parts.foldl (rstep width e) st).sz ≤ st.sz + (parts.map (·.length)).sum + parts.length ∧ (parts.foldl (rstep width e) st).done.length ≤ st.done.length + parts.length
  | [], st => by simp
  | p :: r, st => by
    have h1 := rstep_sz width e st p
    have h2 := rfold_sz width e r (rstep width e st p)
    simp only [List.foldl_cons, List.map_cons, List.sum_cons, List.length_cons]
    omega
end
section
section
variable {c : Cx} {env : Env} {loc : Loc} {H : Own} {P : AV → Own → Prop} {pos : Pos}
theorem AS_ifB {t : Expr} {body orelse : List Stmt} {Q : SP} (B : Bool) (h : AB c env t loc H fun b H1 => b = B ∧ H1 = H) (h1 : B = true → ASs c env body loc H Q) (h2 : B = false → ASs c env orelse loc H Q) : AS c env (.If t body orelse pos) loc H Q :=
  AS_if fun T s R => thenB (h T s R) fun b s1 H1 R1 ⟨e1, e2⟩ => ⟨H1, R1, by subst e1 e2; exact ⟨h1, h2⟩⟩
theorem AE_ifexpB {t e1 e2 : Expr} (B : Bool) (h : AB c env t loc H fun b H1 => b = B ∧ H1 = H) (h1 : B = true → AE c env e1 loc H P) (h2 : B = false → AE c env e2 loc H P) : AE c env (.IfExp t e1 e2 pos) loc H P :=
  AE_ifexp fun T s R => thenB (h T s R) fun b s1 H1 R1 ⟨e1, e2⟩ => ⟨H1, R1, by subst e1 e2; exact ⟨h1, h2⟩⟩
end
theorem sslice_le (x : Str) (lo hi : Option Int) : (sslice x lo hi none).length ≤ x.length := by
  unfold sslice
  split
  · exact Nat.le_refl _
  · refine Nat.le_trans ?_ (indices_len_le lo hi x.length)
    show (List.filterMap _ _).toArray.size ≤ _
    rw [List.size_toArray]
    exact List.length_filterMap_le _ _
theorem rstep_eq1 {width : Int} {e : Str} {st : RSt} {p : Str} (h1 : width < st.head + (st.last ++ p).length) (h2 : wholeE e st.last = true ∨ 0 < st.head) : rstep width e st p = ⟨st.done ++ [st.last], if wholeE e st.last = true ∨ Txt.item p 0 = "\t" then p else " " ++ p, 0⟩ := if_pos ⟨h1, h2⟩
theorem rstep_eq2 {width : Int} {e : Str} {st : RSt} {p : Str} (h : ¬ (width < st.head + (st.last ++ p).length ∧ (wholeE e st.last = true ∨ 0 < st.head))) : rstep width e st p = ⟨st.done, st.last ++ p, st.head⟩ := if_neg h
noncomputable def rowsLoc (parts : List Str) (head width : Int) (e : Str) (q : Addr) (pv wv : Option AV) : Loc :=
  [("parts", some (.lst (parts.map AV.str))), ("head", some (.int head)), ("width", some (.int width)), ("end", some (.str e)), ("rows", some (.ref q)), ("part", pv), ("whole", wv)]
set_option maxHeartbeats 8000000 in
theorem rows_spec {k : Nat} {parts : List Str} {head width : Int} {e : Str} {H : Own} {P : AV → Own → Prop} (hb : (parts.map (·.length)).sum + parts.length ≤ 100000) (hne : ∀ p ∈ parts, p.length ≠ 0)
    (h : P (.str (Str.join "|" (rfold width e parts head).rows)) H) :
    AF (k + 1) (.ref 314) [.lst (parts.map AV.str), .int head, .int width, .str e] H P := by
  refine AF_drop (AF_def (ds := []) ["parts", "head", "width", "end"] ["rows", "part", "whole"] [("parts", some (.lst (parts.map AV.str))), ("head", some (.int head)), ("width", some (.int width)), ("end", some (.str e)), ("rows", none), ("part", none), ("whole", none)] (fun w => by rfl) (fun w => by rfl) rfl (by decide) ?_ (by decide +kernel) ?_ (by decide))
  · intro w s args' hl hk
    obtain ⟨x, y, z, u, rfl⟩ := ln4 hl
    exact ⟨[], BindsTo.of_eq rfl, fun _ _ => .nil⟩
  · intro w os base outer A₀ A h₀ L X Y c G
    refine ASs_cons (AS_assign (AE_list ?_))
    refine AEs_cons ?_; refine AE_str ?_; refine AEs_nil ?_
    refine ⟨by simp, fun q => ?_⟩
    (with_reducible refine St1_local (by assumption) (by with_reducible repeat first | exact SetL.head | apply SetL.tail) ?_)
    have hsz : ∀ i, i ≤ parts.length → ((parts.take i).foldl (rstep width e) ⟨[], "", head⟩).sz ≤ 100000 ∧ ((parts.take i).foldl (rstep width e) ⟨[], "", head⟩).done.length ≤ 100000 := fun i hi => by
      have h1 := rfold_sz width e (parts.take i) ⟨[], "", head⟩
      have h2 : ((parts.take i).map (·.length)).sum ≤ (parts.map (·.length)).sum := by
        conv => rhs; rw [← List.take_append_drop i parts, List.map_append, List.sum_append]
        omega
      have h3 : (parts.take i).length ≤ parts.length := by rw [List.length_take]; omega
      have h4 : (⟨[], "", head⟩ : RSt).sz = 0 := rfl
      have h5 : (⟨[], "", head⟩ : RSt).done.length = 0 := rfl
      omega
    refine ASs_cut2 (fun l H1 => ∃ pv wv st, st = rfold width e parts head ∧ H1 = (q, .list (st.done.map AV.str ++ [.str st.last])) :: H ∧ l = [("parts", some (.lst (parts.map AV.str))), ("head", some (.int st.head)), ("width", some (.int width)), ("end", some (.str e)), ("rows", some (.ref q)), ("part", pv), ("whole", wv)]) (AS_for G ?_) ?_
    · refine AE_local (by assumption) (.head _) ?_
      refine ⟨_, It_lst, fun i l H1 => ∃ pv wv st, st = (parts.take i).foldl (rstep width e) ⟨[], "", head⟩ ∧ H1 = (q, .list (st.done.map AV.str ++ [.str st.last])) :: H ∧ l = [("parts", some (.lst (parts.map AV.str))), ("head", some (.int st.head)), ("width", some (.int width)), ("end", some (.str e)), ("rows", some (.ref q)), ("part", pv), ("whole", wv)], ⟨none, none, _, rfl, rfl, rfl⟩, ?_, ?_⟩
      · rintro X Y i x l H1 hx ⟨pv, wv, st, hst, rfl, rfl⟩
        have G' := G.wX (X := X) (Y := Y)
        obtain ⟨p, hpi, rfl⟩ : ∃ p, parts[i]? = some p ∧ x = .str p := by
          rw [List.getElem?_map] at hx
          cases e : parts[i]? with
          | none => rw [e] at hx; cases hx
          | some p => rw [e] at hx; exact ⟨p, rfl, (Option.some.inj hx).symm⟩
        have hi : i < parts.length := (List.getElem?_eq_some_iff.mp hpi).1
        have hnext : (parts.take (i + 1)).foldl (rstep width e) ⟨[], "", head⟩ = rstep width e st p := by
          rw [List.take_add_one, hpi, List.foldl_append, ← hst]; rfl
        obtain ⟨hs1, hs2⟩ := hsz i (by omega)
        rw [← hst] at hs1 hs2
        have hp0 : p.length ≠ 0 := hne p (List.mem_of_getElem? hpi)
        have hpl : p.length ≤ 100000 := by
          have : p.length ≤ (parts.map (·.length)).sum := by
            have hmem : p.length ∈ parts.map (·.length) := List.mem_map.mpr ⟨p, List.mem_of_getElem? hpi, rfl⟩
            clear hsz hs1 hs2 hb
            generalize parts.map (·.length) = ns at hmem
            induction ns with
            | nil => cases hmem
            | cons a r ih =>
              rw [List.sum_cons]
              rcases List.mem_cons.mp hmem with rfl | hm
              · omega
              · have := ih hm; omega
          omega
        have hll : st.last.length ≤ 100000 := by have : st.last.length ≤ st.sz := by unfold RSt.sz; omega
                                                 omega
        have hdl : (st.done.map AV.str).length ≤ 1000000 := by rw [List.length_map]; omega
        refine As1_name ?_
        (with_reducible refine St1_local (by assumption) (by with_reducible repeat first | exact SetL.head | apply SetL.tail) ?_)
        refine ASs_cons (AS_assign ?_)
        refine AE_compare ?_; refine AE_subg ?_; refine AE_subg ?_; refine AE_local (by assumption) (mi 4 rfl) ?_
        refine AE_unary ?_
        refine AE_int ?_
        refine OpU_neg ⟨NoPy_own (.head _), OpG_own_last (.head _) hdl ?_⟩
        refine AE_slice (AEO_some (AE_unary ?_))
        refine AE_int ?_
        refine OpU_neg ⟨_, rfl, AEO_none (AEO_none ⟨NoPy_str, OpG_strslc (by rfl) (Nat.le_trans (sslice_le _ _ _) (by rw [sizeLine_eq]; omega)) ?_⟩)⟩
        refine AE_local (by assumption) (mi 3 rfl) ?_
        refine OpC_seq ?_
        (with_reducible refine St1_local (by assumption) (by with_reducible repeat first | exact SetL.head | apply SetL.tail) ?_)
        refine ASs_cons (AS_ifB (decide (width < st.head + (st.last ++ p).length) && (wholeE e st.last || decide (0 < st.head))) (AB_and (AB_compare ?_)) (fun hB => ?_) (fun hB => ?_))
        · refine AE_binop ?_; refine AE_local (by assumption) (mi 1 rfl) ?_
          refine AE_callb "len" ?_
          with_reducible refine AE_builtin (by assumption) (fun _ => by with_unfolding_all rfl) (by with_unfolding_all rfl) (by decide) (by with_unfolding_all rfl) ?_
          refine ⟨rfl, ?_⟩
          refine AEs_cons ?_; refine AE_binop ?_; refine AE_subg ?_; refine AE_local (by assumption) (mi 4 rfl) ?_
          refine AE_unary ?_
          refine AE_int ?_
          refine OpU_neg ⟨NoPy_own (.head _), OpG_own_last (.head _) hdl ?_⟩
          refine AE_local (by assumption) (mi 5 rfl) ?_
          refine OpB_cat (by rw [sizeLine_eq]; omega) ?_
          refine AEs_nil ?_
          refine OpCall_len_str (by rw [slen_app]; omega) ?_
          refine OpB_add ?_
          refine AE_local (by assumption) (mi 2 rfl) ?_
          refine OpC_gt ⟨_, rfl, fun hb => ?_, fun hb => ⟨by rw [hb]; rfl, rfl⟩⟩
          rw [hb]
          refine AB_and (AB_or (AB_plain ?_))
          refine AE_local (by assumption) (mi 6 rfl) ?_
          refine OpT_bool ⟨fun hw => ?_, fun hw => ⟨fun _ => AB_and_nil ⟨?_, rfl⟩, fun hh => absurd hh (by decide)⟩⟩
          · refine AB_or (AB_compare ?_)
            refine AE_local (by assumption) (mi 1 rfl) ?_; refine AE_int ?_
            have hw : wholeE e st.last = false := hw
            refine OpC_gt ⟨_, rfl, fun hd => AB_or_nil ⟨fun hh => absurd hh (by decide), fun _ => ⟨?_, rfl⟩⟩, fun hd => ⟨fun _ => AB_and_nil ⟨?_, rfl⟩, fun hh => absurd hh (by decide)⟩⟩
            · rw [hw, hd]; rfl
            · rw [hw, hd]; rfl
          · have hw : wholeE e st.last = true := hw
            rw [hw]; rfl
        · simp only [Bool.and_eq_true, Bool.or_eq_true, decide_eq_true_eq] at hB
          refine ASs_cons (AS_expr (AE_methb "list.append" ?_))
          refine AE_local (by assumption) (mi 4 rfl) ?_
          refine ⟨OpMeth_append (.head _), AEs_cons (AE_ifexpB (wholeE e st.last || decide (Txt.item p 0 = "\t")) (AB_or (AB_plain ?_)) (fun hw => ?_) (fun hw => ?_))⟩
          · refine AE_local (by assumption) (mi 6 rfl) ?_
            refine OpT_bool ⟨fun hw => AB_or (AB_compare ?_), fun hw => ⟨?_, rfl⟩⟩
            · refine AE_subg ?_; refine AE_local (by assumption) (mi 5 rfl) ?_; refine AE_int ?_
              refine ⟨NoPy_str, OpG_str (by decide) (charAt0 hp0) ?_⟩
              refine AE_str ?_
              have hw : wholeE e st.last = false := hw
              refine OpC_seq ⟨_, rfl, fun hd => AB_or_nil ⟨?_, rfl⟩, fun hd => ⟨?_, rfl⟩⟩
              · rw [hw, hd]; rfl
              · rw [hw, hd]; rfl
            · have hw : wholeE e st.last = true := hw
              rw [hw]; rfl
          · refine AE_local (by assumption) (mi 5 rfl) ?_; refine AEs_nil ?_
            refine OpCall_append (by with_reducible repeat first | exact At.head | apply At.tail) (by simp; omega) ?_
            refine ASs_cons (AS_assign ?_)
            refine AE_int ?_
            (with_reducible refine St1_local (by assumption) (by with_reducible repeat first | exact SetL.head | apply SetL.tail) ?_)
            refine ASs_nil (ASs_nil ⟨some (.str p), some (.bool (wholeE e st.last)), _, rfl, ?_, ?_⟩)
            · rw [hnext, rstep_eq1 hB.1 hB.2, if_pos (by simpa using hw)]; simp
            · rw [hnext, rstep_eq1 hB.1 hB.2]; rfl
          · refine AE_binop ?_; refine AE_str ?_; refine AE_local (by assumption) (mi 5 rfl) ?_
            refine OpB_cat (by rw [sizeLine_eq]; have : (" " : Str).length = 1 := rfl; omega) ?_
            refine AEs_nil ?_
            refine OpCall_append (by with_reducible repeat first | exact At.head | apply At.tail) (by simp; omega) ?_
            refine ASs_cons (AS_assign ?_)
            refine AE_int ?_
            (with_reducible refine St1_local (by assumption) (by with_reducible repeat first | exact SetL.head | apply SetL.tail) ?_)
            refine ASs_nil (ASs_nil ⟨some (.str p), some (.bool (wholeE e st.last)), _, rfl, ?_, ?_⟩)
            · rw [hnext, rstep_eq1 hB.1 hB.2, if_neg (by simpa using hw)]; simp
            · rw [hnext, rstep_eq1 hB.1 hB.2]; rfl
        · have hB : ¬ (width < st.head + (st.last ++ p).length ∧ (wholeE e st.last = true ∨ 0 < st.head)) := by
            intro hh
            have : (decide (width < st.head + (st.last ++ p).length) && (wholeE e st.last || decide (0 < st.head))) = true := by
              simpa only [Bool.and_eq_true, Bool.or_eq_true, decide_eq_true_eq] using hh
            rw [this] at hB; cases hB
          refine ASs_cons (AS_augsub ?_)
          refine AE_local (by assumption) (mi 4 rfl) ?_
          refine AE_unary ?_
          refine AE_int ?_
          refine OpU_neg (OpG_own_last (.head _) hdl ?_)
          refine AE_local (by assumption) (mi 5 rfl) ?_
          refine OpI_cat (by rw [sizeLine_eq]; omega) (OpS_own_last At.head hdl ?_)
          refine ASs_nil (ASs_nil ⟨some (.str p), some (.bool (wholeE e st.last)), _, rfl, ?_, ?_⟩)
          · rw [hnext, rstep_eq2 hB]
          · rw [hnext, rstep_eq2 hB]; rfl
      · rintro l H1 ⟨pv, wv, st, hst, rfl, rfl⟩
        have e1 : (parts.map AV.str).length = parts.length := by simp
        rw [e1, List.take_length] at hst
        exact ASs_nil ⟨pv, wv, st, hst, rfl, rfl⟩
    · rintro l H1 ⟨pv, wv, st, hst, rfl, rfl⟩
      obtain ⟨hs1, hs2⟩ := hsz parts.length (Nat.le_refl _)
      rw [List.take_length] at hs1 hs2
      have hst' : st = parts.foldl (rstep width e) ⟨[], "", head⟩ := hst
      rw [← hst'] at hs1 hs2
      refine ASs_cons (AS_return (AE_methb "str.join" ?_))
      refine AE_str ?_
      refine ⟨OpMeth_str fun t => GM.join, ?_⟩
      refine AEs_cons ?_; refine AE_local (by assumption) (mi 4 rfl) ?_; refine AEs_nil ?_
      refine OpCall_join_own (ls := st.rows) (by simp [RSt.rows]) ?_ ⟨_, _, rfl, by rw [hst]; exact h⟩
      simp only [RSt.rows, List.map_append, List.sum_append, List.map_cons, List.map_nil, List.sum_cons, List.sum_nil, List.length_append, List.length_cons, List.length_nil]
      unfold RSt.sz at hs1
      have : ("|" : Str).length = 1 := rfl
      rw [this]
      omega
end
section
theorem nlParts_len (parts : List (Str × Str)) : accLen (nlParts parts) ≤ accLen parts := by
  rcases List.eq_nil_or_concat parts with rfl | ⟨l, p, rfl⟩
  · decide
  · rw [List.concat_eq_append, nlParts_snoc]
    split
    · rw [accLen_snoc]; omega
    · exact Nat.le_refl _
noncomputable def lsz (lines : List Str) : Nat := (lines.map (·.length)).sum + lines.length
theorem lsz_snoc (l : List Str) (z : Str) : lsz (l ++ [z]) = lsz l + z.length + 1 := by
  simp [lsz]; omega
theorem nlLines_sz (ini : Int) (parts : List (Str × Str)) (lines : List Str) : lsz (nlLines ini parts lines) ≤ accLen parts + lsz lines + 1 := by
  have h := nlParts_len parts
  unfold nlLines
  split
  · split
    · rename_i z _ e
      have e1 : lines = lines.dropLast ++ [z] := by
        rcases List.eq_nil_or_concat lines with rfl | ⟨l, p, rfl⟩
        · simp at e
        · rw [List.concat_eq_append] at e ⊢; simp at e ⊢; exact e
      conv => rhs; rw [e1]
      rw [lsz_snoc, lsz_snoc, slen_app, accStr_len]; omega
    · rw [lsz_snoc, accStr_len]; omega
  · omega
structure FOk (B : Nat) (st : FSt) : Prop where
  ok : ∀ p ∈ st.parts, PyData.strOk p.1 = true ∧ PyData.strOk p.2 = true
  i0 : 0 ≤ st.ini
  i1 : st.ini ≤ 1000
  sz : accLen st.parts + st.parts.length + lsz st.lines ≤ B
theorem FOk.bound {B : Nat} {st : FSt} (h : FOk B st) (hB : B ≤ 100000) : FBound st.ini st.parts st.lines := by
  have h1 := h.sz
  refine ⟨h.ok, h.i0, by have := h.i1; omega, by omega, by unfold lsz at h1; omega, fun z hz => ?_⟩
  have : z.length ≤ (st.lines.map (·.length)).sum := by
    have hm : z.length ∈ st.lines.map (·.length) := List.mem_map.mpr ⟨z, hz, rfl⟩
    clear h1 h
    generalize st.lines.map (·.length) = ns at hm
    induction ns with
    | nil => cases hm
    | cons a r ih =>
      rw [List.sum_cons]
      rcases List.mem_cons.mp hm with rfl | hm
      · omega
      · have := ih hm; omega
  unfold lsz at h1
  omega
theorem accLen_app (l r : List (Str × Str)) : accLen (l ++ r) = accLen l + accLen r := by simp [accLen]
theorem chunk_ok {B m : Nat} {st : FSt} {mx : Int} {sc : Str} {p : Str × Str} (h : FOk B st) (h1 : PyData.strOk p.1 = true) (h2 : PyData.strOk p.2 = true) (hm : p.1.length + p.2.length ≤ m) : FOk (B + m + 3) (chunk mx sc st p) := by
  have hs := h.sz
  have hok : ∀ q ∈ st.parts ++ [p], PyData.strOk q.1 = true ∧ PyData.strOk q.2 = true := fun q hq => by
    rcases List.mem_append.mp hq with hq | hq
    · exact h.ok q hq
    · obtain rfl := List.mem_singleton.mp hq; exact ⟨h1, h2⟩
  have stay : FOk (B + m + 3) ⟨st.ini, st.parts ++ [p], st.lines⟩ := ⟨hok, h.i0, h.i1, by rw [accLen_snoc, List.length_append]; simp only [List.length_cons, List.length_nil]; omega⟩
  unfold chunk
  split
  · split
    · rename_i i _
      refine ⟨fun q hq => hok q (List.mem_of_mem_drop hq), Int.le_refl _, (by decide : (0 : Int) ≤ 1000), ?_⟩
      dsimp only
      rw [lsz_snoc, accStr_len]
      have e : accLen (st.parts ++ [p]) = accLen ((st.parts ++ [p]).take i) + accLen ((st.parts ++ [p]).drop i) := by
        rw [← accLen_app, List.take_append_drop]
      rw [accLen_snoc] at e
      have e2 : ((st.parts ++ [p]).drop i).length ≤ st.parts.length + 1 := by rw [List.length_drop, List.length_append]; simp only [List.length_cons, List.length_nil]; omega
      omega
    · split
      · refine ⟨fun q hq => ?_, Int.le_refl _, (by decide : (0 : Int) ≤ 1000), ?_⟩
        · obtain rfl := List.mem_singleton.mp hq
          refine ⟨?_, h2⟩
          dsimp only
          split
          · decide +kernel
          · exact h1
        · dsimp only
          have e := nlLines_sz st.ini st.parts st.lines
          have e2 : accLen [((if p.1.length = 0 then (" " : Str) else p.1), p.2)] ≤ m + 1 := by
            simp only [accLen, List.map_cons, List.map_nil, List.sum_cons, List.sum_nil]
            split
            · have : (" " : Str).length = 1 := rfl; omega
            · omega
          simp only [List.length_cons, List.length_nil]
          omega
      · exact stay
  · exact stay
end
section
noncomputable def leadP (white : Str) (step : Int) (k : Nat) : Str × Str := (white, if (k : Int).fmod step = 0 then "x" else "o")
noncomputable def leadSt (mx : Int) (sc white : Str) (step ini : Int) : Nat → FSt
  | 0 => ⟨ini, [], []⟩
  | k + 1 => chunk mx sc (leadSt mx sc white step ini k) (leadP white step k)
noncomputable def ringRow (row : Str) (begin : Int) (ring : List Str) (n : Nat) : List Str := (List.range n).foldl (fun r (j : Nat) => if Txt.item row (3 * j + 2) = "x" then r.set (begin + j).toNat "\t" else r) ring
noncomputable def ringRows : List Str → Int → List Str → List Str
  | [], _, ring => ring
  | row :: rest, b, ring => ringRows rest 0 (ringRow row b ring (row.length / 3))
theorem ringRow_len (row : Str) (b : Int) (ring : List Str) (n : Nat) : (ringRow row b ring n).length = ring.length := by
  unfold ringRow
  induction n with
  | zero => rfl
  | succ n ih =>
    rw [List.range_succ, List.foldl_append]
    simp only [List.foldl_cons, List.foldl_nil]
    split
    · rw [List.length_set, ih]
    · exact ih
theorem ringRow_succ (row : Str) (b : Int) (ring : List Str) (n : Nat) : ringRow row b ring (n + 1) = if Txt.item row (3 * n + 2) = "x" then (ringRow row b ring n).set (b + n).toNat "\t" else ringRow row b ring n := by
  unfold ringRow
  rw [List.range_succ, List.foldl_append]
  rfl
noncomputable def rowsFit (size : Int) : Int → List Str → Prop
  | _, [] => True
  | b, row :: rest => 0 ≤ b ∧ b + (row.length / 3 : Nat) ≤ size ∧ row.length ≤ 1000 ∧ rowsFit size 0 rest
noncomputable def leadRows (size step marks head : Int) (white : Str) : List Str :=
  let st := leadSt (3 * size) ("," ++ Txt.item white 0) white step (3 * head) (step * (marks - 1) + 1).toNat
  Txt.split (Str.join "|" (nlLines st.ini st.parts st.lines)) "|"
noncomputable def leadOf (size step marks head : Int) (white : Str) : Str :=
  let ring := ringRows (leadRows size step marks head white) head (List.replicate size.toNat " ")
  Str.join "" ((List.range size.toNat).map fun (j : Nat) => ring.getD ((head + 1 + (j : Int)).fmod size).toNat "")
theorem leadSt_ok {step head : Int} {white : Str} (hw : PyData.strOk white = true) (hl : white.length ≤ 2) (h0 : 0 ≤ head) (h1 : head ≤ 100) (mx : Int) (sc : Str) : ∀ n, FOk (6 * n) (leadSt mx sc white step (3 * head) n)
  | 0 => ⟨fun p hp => by simp [leadSt] at hp, by show 0 ≤ 3 * head; omega, by show 3 * head ≤ 1000; omega, by simp [leadSt, lsz, accLen]⟩
  | n + 1 => by
    have h := chunk_ok (m := 3) (mx := mx) (sc := sc) (p := leadP white step n) (leadSt_ok (step := step) hw hl h0 h1 mx sc n) hw (by unfold leadP; dsimp only; split <;> decide +kernel) (by
      have e : (leadP white step n).1.length + (leadP white step n).2.length = white.length + 1 := by unfold leadP; dsimp only; split <;> rfl
      omega)
    have e : 6 * n + 3 + 3 = 6 * (n + 1) := by omega
    rw [e] at h
    exact h
theorem AF_frameP {k : Nat} {f : Value} {args : List AV} {H : Own} {P : AV → Own → Prop} {x : Addr × AO} (h : AF k f args H fun v H2 => P v (x :: H2)) : AF k f args (x :: H) P :=
  (h.frame x).mono (by rintro v H1 ⟨H2, rfl, p⟩; exact p)
theorem charAt_in {f : Str} {i : Int} (h0 : 0 ≤ i) (h : i < f.length) : (Txt.charAt f i).isSome = true := by
  unfold Txt.charAt
  have e : seqIndex? i f.length = some i.toNat := by unfold seqIndex?; simp; omega
  rw [e]
  have hp : i.toNat < f.cps.size := by have : f.cps.size = f.length := rfl; omega
  show (f.cps[i.toNat]?).isSome = true
  rw [Array.getElem?_eq_getElem hp]; rfl
theorem leadOf_len (ls : List Str) : (Str.join "" ls).length = (ls.map (·.length)).sum := by
  induction ls with
  | nil => rfl
  | cons y r ih =>
    cases r with
    | nil => simp [Str.join]
    | cons z q =>
      show (y ++ ("" : Str) ++ Str.join "" (z :: q)).length = _
      rw [slen_app, slen_app, ih]
      have : ("" : Str).length = 0 := rfl
      simp [this]
noncomputable def closed (cells : List (Str × Addr)) : List (Str × NameKind) → List (Str × Addr) → Option (List (Str × Addr))
  | [], acc => some acc
  | (n, k) :: r, acc => if k == .free then (match cells.lookup n with | some a => closed cells r ((n, a) :: acc) | none => none) else closed cells r acc
theorem closure_loop {env : Env} : ∀ (names : List (Str × NameKind)) (acc cl : List (Str × Addr)), closed env.cells names acc = some cl →
    (forIn names acc fun (x : Str × NameKind) cs => (if x.2 == .free then do let a ← cellOf env x.1; pure (ForInStep.yield ((x.1, a) :: cs)) else pure (ForInStep.yield cs) : Sem _)) = pure cl
  | [], acc, cl, h => by rw [List.forIn_nil]; rw [closed] at h; cases h; rfl
  | (n, k) :: r, acc, cl, h => by
    rw [List.forIn_cons]
    rw [closed] at h
    by_cases hk : (k == NameKind.free) = true
    · simp only [hk, if_true] at h ⊢
      cases hl : env.cells.lookup n with
      | none => rw [hl] at h; cases h
      | some a =>
        rw [hl] at h
        have e : cellOf env n = pure a := by unfold cellOf; rw [hl]
        simp only [e, pure_bind]
        exact closure_loop r _ _ h
    · simp only [hk, if_false, Bool.false_eq_true] at h ⊢
      simp only [pure_bind]
      exact closure_loop r _ _ h
theorem closure_of {scope : Scope} {env : Env} {cl : List (Str × Addr)} (h : closed env.cells scope.names [] = some cl) : closureFor scope env = pure cl := by
  have := closure_loop (env := env) scope.names [] cl h
  unfold closureFor
  simp only [bind_pure]
  exact this
theorem ringRows_len : ∀ (rows : List Str) (b : Int) (ring : List Str), (ringRows rows b ring).length = ring.length
  | [], _, _ => rfl
  | row :: r, b, ring => by rw [ringRows, ringRows_len r, ringRow_len]
noncomputable def short (ring : List Str) : Prop := ∀ x ∈ ring, x.length ≤ 1
theorem short_set {ring : List Str} (h : short ring) (i : Nat) : short (ring.set i "\t") := fun x hx => by
  rcases List.mem_or_eq_of_mem_set hx with hx | rfl
  · exact h x hx
  · exact Nat.le_refl _
theorem short_row {ring : List Str} (h : short ring) (row : Str) (b : Int) : ∀ n, short (ringRow row b ring n)
  | 0 => h
  | n + 1 => by
    rw [ringRow_succ]
    split
    · exact short_set (short_row h row b n) _
    · exact short_row h row b n
theorem short_rows : ∀ (rows : List Str) (b : Int) (ring : List Str), short ring → short (ringRows rows b ring)
  | [], _, _, h => h
  | row :: r, b, ring, h => short_rows r 0 _ (short_row h row b _)
theorem short_sum {ring : List Str} (h : short ring) (f : Nat → Nat) (n : Nat) (hn : n ≤ 1000) : (((List.range n).map fun j => ring.getD (f j) "").map (·.length)).sum + ((List.range n).map fun j => ring.getD (f j) "").length * ("" : Str).length ≤ 16777216 := by
  have h1 : ∀ j, (ring.getD j "").length ≤ 1 := fun j => by
    rw [List.getD_eq_getElem?_getD]
    cases e : ring[j]? with
    | none => exact Nat.zero_le _
    | some x => exact h x (List.mem_of_getElem? e)
  have h2 : ∀ m, (((List.range m).map fun j => ring.getD (f j) "").map (·.length)).sum ≤ m := fun m => by
    induction m with
    | zero => exact Nat.le_refl _
    | succ m ih =>
      rw [List.range_succ, List.map_append, List.map_append, List.sum_append]
      have := h1 (f m)
      simp only [List.map_cons, List.map_nil, List.sum_cons, List.sum_nil]
      omega
  have := h2 n
  have e : ("" : Str).length = 0 := rfl
  rw [e, Nat.mul_zero]; omega
set_option maxHeartbeats 8000000 in
theorem lead_spec {k : Nat} {size step marks head : Int} {white : Str} {H : Own} {P : AV → Own → Prop} (TB : Tabs H) (hs1 : 1 ≤ size) (hs2 : size ≤ 100) (hst : 1 ≤ step) (hst2 : step ≤ 100) (hm : 1 ≤ marks) (hm2 : marks ≤ 100) (hh0 : 0 ≤ head) (hh2 : head ≤ 100)
    (hw : PyData.strOk white = true) (hwl : white.length ≤ 2) (hw0 : white.length ≠ 0)
    (hfit : rowsFit size head (leadRows size step marks head white)) (h : P (.str (leadOf size step marks head white)) H) :
    AF (k + 8) (.ref 288) [.int size, .int step, .int marks, .int head, .str white] H P := by
  refine AF_defC (cvs := [none, some (.int head), some (.int size)]) [("step", some (.int step)), ("marks", some (.int marks)), ("white", some (.str white)), ("maker", none), ("k", none), ("begin", none), ("row", none), ("j", none)] (fun as => (["size", "step", "marks", "head", "white"].map Str.ofString).zip as)
    (fun w => by rfl) (fun w => by rfl) ?_ ?_ (by decide +kernel) ?_ ?_ ?_ ?_
  · intro w s args' hl
    obtain ⟨x, y, z, u, v, rfl⟩ := ln5 hl
    exact BindsTo.of_eq rfl
  · intro args' hl
    obtain ⟨x, y, z, u, v, rfl⟩ := ln5 hl
    rfl
  · intro L
    refine ⟨?_, ?_⟩
    · show List.Nodup [L + 1 + 1 + 1, L + 1 + 1, L + 1]
      simp only [List.nodup_cons, List.mem_cons, List.not_mem_nil, or_false, not_or, List.nodup_nil, and_true, not_false_eq_true]
      omega
    · show ∀ p ∈ [(Str.ofString "ring", L + 1 + 1 + 1), (Str.ofString "head", L + 1 + 1), (Str.ofString "size", L + 1)], L < p.2
      intro p hp
      simp only [List.mem_cons, List.not_mem_nil, or_false] at hp
      rcases hp with rfl | rfl | rfl <;> (show L < _; omega)
  · intro L B N args' hv
    obtain ⟨x, y, z, u, v, rfl, h1, h2, h3, h4, h5⟩ := hv.inv5
    · refine ⟨(by decide : (["step", "marks", "white", "maker", "k", "begin", "row", "j"] : List String).Nodup), ?_, fun n v hm => ?_⟩
      · show ∀ x ∈ (["step", "marks", "white", "maker", "k", "begin", "row", "j"] : List String), _
        decide
      simp only [List.mem_cons, Prod.mk.injEq, Option.some.injEq, reduceCtorEq, and_false, List.not_mem_nil, or_false] at hm
      rcases hm with ⟨rfl, rfl⟩ | ⟨rfl, rfl⟩ | ⟨rfl, rfl⟩
      · exact ⟨_, by rfl, h2⟩
      · exact ⟨_, by rfl, h3⟩
      · exact ⟨_, by rfl, h5⟩
  · intro L B N args' hv
    obtain ⟨x, y, z, u, v, rfl, h1, h2, h3, h4, h5⟩ := hv.inv5
    · exact .none (.some (by rfl) h4 (.some (by rfl) h1 .nil))
  · intro w os base outer A₀ A h₀ L X Y c G
    have hcR : c.cells.lookup (Str.ofString "ring") = some (L + 1 + 1 + 1) := by rfl
    have hcH : c.cells.lookup (Str.ofString "head") = some (L + 1 + 1) := by rfl
    have hcS : c.cells.lookup (Str.ofString "size") = some (L + 1) := by rfl
    have hkR : c.scope.names.lookup (Str.ofString "ring") = some .cell := by rfl
    have hkH : c.scope.names.lookup (Str.ofString "head") = some .cell := by rfl
    have hkS : c.scope.names.lookup (Str.ofString "size") = some .cell := by rfl
    show ASs c c.env _ _ ((L + 1 + 1 + 1, .cell none) :: (L + 1 + 1, .cell (some (.int head))) :: (L + 1, .cell (some (.int size))) :: H) _
    generalize hr : L + 1 + 1 + 1 = cr at *
    generalize hh : L + 1 + 1 = ch at *
    generalize hs : L + 1 = cs at *
    refine ASs_cons (AS_assign (AE_callf 94 G (fun w => by kernel_rfl) ?_))
    refine AE_global (av := .ref 94) G (fun w => by rfl) (by rfl) (fun B N => .ref _) ?_
    refine ⟨rfl, ?_⟩
    refine AEs_cons ?_; refine AE_binop ?_; refine AE_int ?_
    refine AE_cell G hcH (mi 1 rfl) hkH ?_
    refine OpB_mul (mulSmall (by decide)) ?_
    refine AEs_cons ?_; refine AE_binop ?_; refine AE_int ?_
    refine AE_cell G hcS (mi 2 rfl) hkS ?_
    refine OpB_mul (mulSmall (by decide)) ?_
    refine AEs_cons ?_; refine AE_str ?_
    refine AEs_cons ?_; refine AE_binop ?_; refine AE_str ?_; refine AE_subg ?_; refine AE_local (by assumption) (mi 2 rfl) ?_; refine AE_int ?_
    have hi0 : (Txt.item white 0).length ≤ 1 := Nat.le_refl _
    refine ⟨NoPy_str, OpG_str (by decide) (charAt0 hw0) (OpB_cat (by rw [sizeLine_eq]; have : ("," : Str).length = 1 := rfl; omega) ?_)⟩
    generalize hsc : ("," : Str) ++ Txt.item white 0 = sc
    have hscl : sc.length ≤ 1000 := by rw [← hsc, slen_app]; have : ("," : Str).length = 1 := rfl; omega
    refine AEs_nil ?_
    refine OpCall_newinst (k := k + 6) (C := 94) (fI := 35) G (fun w => by kernel_rfl) (fun w => by kernel_rfl) (fun w => by kernel_rfl) fun mk => finit_spec fun ln ac => ⟨rfl, ?_⟩
    (with_reducible refine St1_local (by assumption) (by with_reducible repeat first | exact SetL.head | apply SetL.tail) ?_)
    generalize hn : (step * (marks - 1) + 1).toNat = n
    have hsm1 : 0 ≤ step * (marks - 1) := Int.mul_nonneg (by omega) (by omega)
    have hsm2 : step * (marks - 1) ≤ 100 * 100 := Int.mul_le_mul (by omega) (by omega) (by omega) (by omega)
    have hok : ∀ i, FOk (6 * i) (leadSt (3 * size) sc white step (3 * head) i) := fun i => leadSt_ok hw hwl hh0 hh2 _ _ i
    refine ASs_cut2 (fun l H1 => ∃ kv, l = [("step", some (.int step)), ("marks", some (.int marks)), ("white", some (.str white)), ("maker", some (.ref mk)), ("k", kv), ("begin", none), ("row", none), ("j", none)] ∧
      H1 = FmtS mk ln ac sc (3 * size) (leadSt (3 * size) sc white step (3 * head) n) ((cr, .cell none) :: (ch, .cell (some (.int head))) :: (cs, .cell (some (.int size))) :: H)) (AS_for G (AE_callt "range" ?_)) ?_
    · with_reducible refine AE_builtin (by assumption) (fun _ => by with_unfolding_all rfl) (by with_unfolding_all rfl) (by decide) (by with_unfolding_all rfl) ?_
      refine ⟨rfl, ?_⟩
      refine AEs_cons ?_; refine AE_binop ?_; refine AE_binop ?_; refine AE_local (by assumption) (.head _) ?_; refine AE_binop ?_; refine AE_local (by assumption) (mi 1 rfl) ?_; refine AE_int ?_
      refine OpB_sub (OpB_mul (mulSmall (by omega)) ?_)
      refine AE_int ?_
      refine OpB_add ?_
      refine AEs_nil ?_
      refine OpCall_range1 ⟨_, It_up (by decide) (by decide) (by omega) (by omega), fun i l H1 => ∃ kv, l = [("step", some (.int step)), ("marks", some (.int marks)), ("white", some (.str white)), ("maker", some (.ref mk)), ("k", kv), ("begin", none), ("row", none), ("j", none)] ∧
        H1 = FmtS mk ln ac sc (3 * size) (leadSt (3 * size) sc white step (3 * head) i) ((cr, .cell none) :: (ch, .cell (some (.int head))) :: (cs, .cell (some (.int size))) :: H), ⟨none, rfl, rfl⟩, ?_, ?_⟩
      · rintro X Y i x l H1 hx ⟨kv, rfl, rfl⟩
        have G' := G.wX (X := X) (Y := Y)
        have hin : i < n := by
          have := (List.getElem?_eq_some_iff.mp hx).1
          simp at this; omega
        obtain rfl : x = .int i := by
          rw [List.getElem?_map, List.getElem?_range (by omega)] at hx
          simp at hx; exact hx.symm
        have hs1 := (hok i).sz
        refine As1_name ?_
        (with_reducible refine St1_local (by assumption) (by with_reducible repeat first | exact SetL.head | apply SetL.tail) ?_)
        refine ASs_cons (AS_expr (AE_methf 91 G' (fun w => by kernel_rfl) ?_))
        refine AE_local (by assumption) (mi 3 rfl) ?_
        refine ⟨OpMeth_inst G' (C := 94) (fs := FmtF "" sc (3 * size) ln ac) (mi 2 rfl) (fun w => by kernel_rfl) (fun w => by kernel_rfl) (fun w => by kernel_rfl) (by simp [fget]), ?_⟩
        refine AEs_cons ?_; refine AE_local (by assumption) (mi 2 rfl) ?_
        refine AEs_cons (AE_ifexpB (decide ((i : Int).fmod step = 0)) (AB_compare ?_) (fun hb => ?_) (fun hb => ?_))
        · refine AE_binop ?_; refine AE_local (by assumption) (mi 4 rfl) ?_; refine AE_local (by assumption) (.head _) ?_
          refine OpB_mod (by omega) ?_
          refine AE_int ?_
          exact OpC_eq ⟨_, rfl, rfl, rfl⟩
        · refine AE_str ?_; refine AEs_nil ?_
          refine OpCall_of G' (chunk_spec (k := k + 1) (p := (white, "x")) (st := leadSt (3 * size) sc white step (3 * head) i) TB.cons.cons.cons ((hok i).bound (by omega)) ?_ hscl ?_)
          · rw [accLen_snoc, List.length_append]; simp only [List.length_cons, List.length_nil]; have : ("x" : Str).length = 1 := rfl; omega
          · refine ASs_nil ⟨_, rfl, ?_⟩
            rw [leadSt, leadP, if_pos (by simpa using hb)]
        · refine AE_str ?_; refine AEs_nil ?_
          refine OpCall_of G' (chunk_spec (k := k + 1) (p := (white, "o")) (st := leadSt (3 * size) sc white step (3 * head) i) TB.cons.cons.cons ((hok i).bound (by omega)) ?_ hscl ?_)
          · rw [accLen_snoc, List.length_append]; simp only [List.length_cons, List.length_nil]; have : ("o" : Str).length = 1 := rfl; omega
          · refine ASs_nil ⟨_, rfl, ?_⟩
            rw [leadSt, leadP, if_neg (by simpa using hb)]
      · rintro l H1 ⟨kv, rfl, rfl⟩
        refine ASs_nil ⟨kv, rfl, ?_⟩
        simp only [List.length_map, List.length_range, Int.sub_zero]
        rw [hn]
    · rintro l H1 ⟨kv, rfl, rfl⟩
      have hs1 := (hok n).sz
      have hnb : n ≤ 10001 := by omega
      refine ASs_cons (AS_assign (AE_weak ?_))
      refine AE_binop ?_
      refine AE_list ?_
      refine AEs_cons ?_; refine AE_str ?_; refine AEs_nil ?_
      refine ⟨by simp, fun q1 => ?_⟩
      refine AE_cell G hcS (mi 6 rfl) hkS ?_
      refine OpB_lmul (.head _) (by omega) (by omega) fun q2 => ?_
      refine ⟨_, .cons_cons _ (.cons _ (List.Sublist.refl _)), ?_⟩
      refine St1_cell G hcR hkR (by with_reducible repeat first | exact At.head | apply At.tail) ?_
      refine ASs_cons (AS_assign ?_)
      refine AE_cell G hcH (mi 5 rfl) hkH ?_
      (with_reducible refine St1_local (by assumption) (by with_reducible repeat first | exact SetL.head | apply SetL.tail) ?_)
      have hlz : lsz (nlLines (leadSt (3 * size) sc white step (3 * head) n).ini (leadSt (3 * size) sc white step (3 * head) n).parts (leadSt (3 * size) sc white step (3 * head) n).lines) ≤ 60007 := by
        have := nlLines_sz (leadSt (3 * size) sc white step (3 * head) n).ini (leadSt (3 * size) sc white step (3 * head) n).parts (leadSt (3 * size) sc white step (3 * head) n).lines
        omega
      have hrows : leadRows size step marks head white = Txt.split (Str.join "|" (nlLines (leadSt (3 * size) sc white step (3 * head) n).ini (leadSt (3 * size) sc white step (3 * head) n).parts (leadSt (3 * size) sc white step (3 * head) n).lines)) "|" := by
        unfold leadRows
        rw [hn, hsc]
      have hlead : leadOf size step marks head white = Str.join "" ((List.range size.toNat).map fun (j : Nat) => (ringRows (leadRows size step marks head white) head (List.replicate size.toNat " ")).getD ((head + 1 + (j : Int)).fmod size).toNat "") := rfl
      generalize leadRows size step marks head white = rows at hrows hlead hfit
      generalize hlns : nlLines (leadSt (3 * size) sc white step (3 * head) n).ini (leadSt (3 * size) sc white step (3 * head) n).parts (leadSt (3 * size) sc white step (3 * head) n).lines = lns at hlz hrows
      generalize hring : ringRows rows head (List.replicate size.toNat " ") = ring at hlead
      have hsh : short ring := by
        rw [← hring]
        exact short_rows _ _ _ fun x hx => by rw [(List.mem_replicate.mp hx).2]; exact Nat.le_refl _
      have hrl : ring.length = size.toNat := by rw [← hring, ringRows_len, List.length_replicate]
      refine ASs_cut2 (fun l H1 => ∃ rv jv bv, l = [("step", some (.int step)), ("marks", some (.int marks)), ("white", some (.str white)), ("maker", some (.ref mk)), ("k", kv), ("begin", bv), ("row", rv), ("j", jv)] ∧
        H1 = (q2, .list (ring.map AV.str)) :: FmtH mk ln ac sc (3 * size) 0 [] lns ((cr, .cell (some (.ref q2))) :: (ch, .cell (some (.int head))) :: (cs, .cell (some (.int size))) :: H)) (AS_for G (AE_methb "str.split" ?_)) ?_
      · refine AE_methf 42 G (fun w => by kernel_rfl) ?_
        refine AE_local (by assumption) (mi 3 rfl) ?_
        refine ⟨OpMeth_inst G (C := 94) (fs := FmtF "" sc (3 * size) ln ac) (mi 3 rfl) (fun w => by kernel_rfl) (fun w => by kernel_rfl) (fun w => by kernel_rfl) (by simp [fget]), ?_⟩
        refine AEs_cons ?_; refine AE_str ?_; refine AEs_nil ?_
        refine OpCall_of G (AF_frameP (fstr_spec (k := k + 1) TB.cons.cons.cons ((hok n).bound (by omega)) ?_ ?_))
        · rw [hlns]; unfold lsz at hlz; have : ("|" : Str).length = 1 := rfl; rw [this]; omega
        rw [hlns]
        refine ⟨OpMeth_str fun t => GM.split, ?_⟩
        refine AEs_cons ?_; refine AE_str ?_; refine AEs_nil ?_
        refine OpCall_split (by decide) ?_ ?_
        · have := StrLaws.join_length_le "|" lns
          unfold lsz at hlz; have e : ("|" : Str).length = 1 := rfl; rw [e] at this; omega
        rw [← hrows]
        refine ⟨_, It_lst, fun i l H1 => ∃ rv jv b rg, l = [("step", some (.int step)), ("marks", some (.int marks)), ("white", some (.str white)), ("maker", some (.ref mk)), ("k", kv), ("begin", some (.int b)), ("row", rv), ("j", jv)] ∧
          H1 = (q2, .list (rg.map AV.str)) :: FmtH mk ln ac sc (3 * size) 0 [] lns ((cr, .cell (some (.ref q2))) :: (ch, .cell (some (.int head))) :: (cs, .cell (some (.int size))) :: H) ∧
          rg.length = size.toNat ∧ rowsFit size b (rows.drop i) ∧ ringRows (rows.drop i) b rg = ring, ⟨none, none, head, List.replicate size.toNat " ", rfl, ?_, ?_, ?_, ?_⟩, ?_, ?_⟩
        · rw [List.map_replicate]
        · rw [List.length_replicate]
        · exact hfit
        · exact hring
        · rintro X Y i x l H1 hx ⟨rv, jv, b, rg, rfl, rfl, hrg, hf, he⟩
          have G' := G.wX (X := X) (Y := Y)
          obtain ⟨row, hri, rfl⟩ : ∃ row, rows[i]? = some row ∧ x = .str row := by
            rw [List.getElem?_map] at hx
            cases e : rows[i]? with
            | none => rw [e] at hx; cases hx
            | some p => rw [e] at hx; exact ⟨p, rfl, (Option.some.inj hx).symm⟩
          have hil : i < rows.length := (List.getElem?_eq_some_iff.mp hri).1
          have hd : rows.drop i = row :: rows.drop (i + 1) := by
            rw [List.drop_eq_getElem_cons hil]
            congr 1
            exact (List.getElem?_eq_some_iff.mp hri).2
          rw [hd] at hf he
          obtain ⟨hf0, hf1, hf2, hf3⟩ := hf
          rw [ringRows] at he
          have hq : ((row.length : Nat) : Int).fdiv 3 = ((row.length / 3 : Nat) : Int) := by
            rw [Int.fdiv_eq_ediv_of_nonneg _ (by omega)]; omega
          refine As1_name ?_
          (with_reducible refine St1_local (by assumption) (by with_reducible repeat first | exact SetL.head | apply SetL.tail) ?_)
          refine ASs_cut2 (fun l H1 => ∃ jv, l = [("step", some (.int step)), ("marks", some (.int marks)), ("white", some (.str white)), ("maker", some (.ref mk)), ("k", kv), ("begin", some (.int b)), ("row", some (.str row)), ("j", jv)] ∧
            H1 = (q2, .list ((ringRow row b rg (row.length / 3)).map AV.str)) :: FmtH mk ln ac sc (3 * size) 0 [] lns ((cr, .cell (some (.ref q2))) :: (ch, .cell (some (.int head))) :: (cs, .cell (some (.int size))) :: H)) (AS_for G' (AE_callt "range" ?_)) ?_
          · with_reducible refine AE_builtin (by assumption) (fun _ => by with_unfolding_all rfl) (by with_unfolding_all rfl) (by decide) (by with_unfolding_all rfl) ?_
            refine ⟨rfl, ?_⟩
            refine AEs_cons ?_; refine AE_binop ?_
            refine AE_callb "len" ?_
            with_reducible refine AE_builtin (by assumption) (fun _ => by with_unfolding_all rfl) (by with_unfolding_all rfl) (by decide) (by with_unfolding_all rfl) ?_
            refine ⟨rfl, ?_⟩
            refine AEs_cons ?_; refine AE_local (by assumption) (mi 6 rfl) ?_; refine AEs_nil ?_
            refine OpCall_len_str (by omega) ?_
            refine AE_int ?_
            refine OpB_div (by decide) (noPy (by omega)) ?_
            rw [hq]
            refine AEs_nil ?_
            refine OpCall_range1 ⟨_, It_up (by decide) (by decide) (by omega) (by omega), fun j l H1 => ∃ jv, l = [("step", some (.int step)), ("marks", some (.int marks)), ("white", some (.str white)), ("maker", some (.ref mk)), ("k", kv), ("begin", some (.int b)), ("row", some (.str row)), ("j", jv)] ∧
              H1 = (q2, .list ((ringRow row b rg j).map AV.str)) :: FmtH mk ln ac sc (3 * size) 0 [] lns ((cr, .cell (some (.ref q2))) :: (ch, .cell (some (.int head))) :: (cs, .cell (some (.int size))) :: H), ⟨jv, rfl, rfl⟩, ?_, ?_⟩
            · rintro X2 Y2 j x l H1 hx ⟨jv, rfl, rfl⟩
              have G2 := G'.wX (X := X2) (Y := Y2)
              have hjn : j < row.length / 3 := by
                have := (List.getElem?_eq_some_iff.mp hx).1
                simp at this; omega
              obtain rfl : x = .int j := by
                rw [List.getElem?_map, List.getElem?_range (by omega)] at hx
                simp at hx; exact hx.symm
              refine As1_name ?_
              (with_reducible refine St1_local (by assumption) (by with_reducible repeat first | exact SetL.head | apply SetL.tail) ?_)
              refine ASs_cons (AS_if (AB_compare ?_))
              refine AE_subg ?_; refine AE_local (by assumption) (mi 6 rfl) ?_; refine AE_binop ?_; refine AE_binop ?_; refine AE_int ?_; refine AE_local (by assumption) (mi 7 rfl) ?_
              refine OpB_mul (mulSmall (by decide)) ?_
              refine AE_int ?_
              refine OpB_add ⟨NoPy_str, OpG_str ?_ (charAt_in (by omega) (by omega)) ?_⟩
              · unfold fitsSsize; simp; omega
              refine AE_str ?_
              refine OpC_seq ⟨_, rfl, fun hb => ?_, fun hb => ?_⟩
              · refine ASs_cons (AS_setitem ?_)
                refine AE_str ?_
                refine AE_cell G2 hcR (mi 4 rfl) hkR ?_
                refine AE_binop ?_; refine AE_local (by assumption) (mi 5 rfl) ?_; refine AE_local (by assumption) (mi 7 rfl) ?_
                refine OpB_add ?_
                refine OpS_own (l := (ringRow row b rg j).map AV.str) (H' := (q2, .list (((ringRow row b rg j).set (b + j).toNat "\t").map AV.str)) :: FmtH mk ln ac sc (3 * size) 0 [] lns ((cr, .cell (some (.ref q2))) :: (ch, .cell (some (.int head))) :: (cs, .cell (some (.int size))) :: H)) (by rw [List.map_set]; exact At.head) (by omega) (by omega) (by rw [List.length_map, ringRow_len]; omega) ?_
                refine ASs_nil (ASs_nil ⟨_, rfl, ?_⟩)
                rw [ringRow_succ, if_pos (by simpa using hb)]
              · refine ASs_nil (ASs_nil ⟨_, rfl, ?_⟩)
                rw [ringRow_succ, if_neg (by simpa using hb)]
            · rintro l H1 ⟨jv, rfl, rfl⟩
              refine ASs_nil ⟨jv, rfl, ?_⟩
              simp only [List.length_map, List.length_range, Int.sub_zero, Int.toNat_natCast]
          · rintro l H1 ⟨jv, rfl, rfl⟩
            refine ASs_cons (AS_assign ?_)
            refine AE_int ?_
            (with_reducible refine St1_local (by assumption) (by with_reducible repeat first | exact SetL.head | apply SetL.tail) ?_)
            exact ASs_nil ⟨_, _, 0, _, rfl, rfl, by rw [ringRow_len, hrg], hf3, he⟩
        · rintro l H1 ⟨rv, jv, b, rg, rfl, rfl, hrg, hf, he⟩
          rw [List.length_map, List.drop_length] at he
          rw [ringRows] at he
          subst he
          exact ASs_nil ⟨_, _, _, rfl, rfl⟩
      · rintro l H1 ⟨rv, jv, bv, rfl, rfl⟩
        refine ASs_cons (AS_return (AE_weak (AE_methb "str.join" ?_)))
        refine AE_str ?_
        refine ⟨OpMeth_str fun t => GM.join, AEs_cons ?_⟩
        refine AE_listcomp (cl := [(Str.ofString "size", cs), (Str.ofString "ring", cr), (Str.ofString "head", ch)]) G ["j"] ?_ ?_
        · refine closure_of ?_
          simp only [closed, show c.env.cells = c.cells from rfl, hcR, hcH, hcS]
          rfl
        refine AE_callt "range" ?_
        with_reducible refine AE_builtin (by assumption) (fun _ => by with_unfolding_all rfl) (by with_unfolding_all rfl) (by decide) (by with_unfolding_all rfl) ?_
        refine ⟨rfl, ?_⟩
        refine AEs_cons ?_
        refine AE_cell G hcS (mi 6 rfl) hkS ?_
        refine AEs_nil ?_
        refine OpCall_range1 ⟨_, fun i => some (.str (ring.getD ((head + 1 + (i : Int)).fmod size).toNat "")), It_up (by decide) (by decide) (by omega) (by omega), by simp; omega, ?_, ?_⟩
        · intro X Y C D l i x ys hx hl
          have G' := G.wX (X := X) (Y := Y)
          obtain ⟨u, rfl⟩ := names1 hl
          have hin : i < size.toNat := by
            have := (List.getElem?_eq_some_iff.mp hx).1
            simp at this; omega
          obtain rfl : x = .int i := by
            rw [List.getElem?_map, List.getElem?_range (by omega)] at hx
            simp at hx; exact hx.symm
          refine As1_name ?_
          refine St1_ns rfl (by first | rfl | with_unfolding_all rfl) (by first | rfl | with_unfolding_all rfl) At.head SetL.head ?_
          refine ⟨rfl, _, rfl, rfl, ATs_nil ⟨rfl, fun _ => ?_, fun hh => by cases hh⟩⟩
          refine AE_subg ?_
          refine AE_cellE (ca := cr) (by with_unfolding_all rfl) (by rfl) (mi 6 rfl) (by with_unfolding_all rfl) ?_
          refine AE_binop ?_; refine AE_binop ?_; refine AE_binop ?_
          refine AE_cellE (ca := ch) (by with_unfolding_all rfl) (by rfl) (mi 7 rfl) (by with_unfolding_all rfl) ?_
          refine AE_int ?_
          refine OpB_add ?_
          refine AE_ns (by with_unfolding_all rfl) rfl (.head _) (.head _) (by with_unfolding_all rfl) ?_
          refine OpB_add ?_
          refine AE_cellE (ca := cs) (by with_unfolding_all rfl) (by rfl) (mi 8 rfl) (by with_unfolding_all rfl) ?_
          refine OpB_mod (by omega) ?_
          have hm0 : 0 ≤ (head + 1 + (i : Int)).fmod size := Int.fmod_nonneg (by omega) (by omega)
          have hm1 : (head + 1 + (i : Int)).fmod size < size := Int.fmod_lt_of_pos _ (by omega)
          have hj : ((head + 1 + (i : Int)).fmod size).toNat < ring.length := by omega
          refine ⟨NoPy_own (l := ring.map AV.str) (mi 2 rfl), OpG_own (j := 0) (x := .str (ring.getD ((head + 1 + (i : Int)).fmod size).toNat "")) (l := ring.map AV.str) (mi 2 rfl) hm0 (by omega) ?_ ⟨rfl, rfl⟩⟩
          rw [List.getElem?_map, List.getD_eq_getElem?_getD, List.getElem?_eq_getElem hj]; rfl
        · have e1 : ∀ n, ((List.range n).filterMap fun i : Nat => some (AV.str (ring.getD ((head + 1 + (i : Int)).fmod size).toNat ""))) = (((List.range n).map fun (j : Nat) => ring.getD ((head + 1 + (j : Int)).fmod size).toNat "")).map AV.str := fun n => by
            rw [List.map_map]
            exact List.filterMap_eq_map' (f := fun i : Nat => AV.str (ring.getD ((head + 1 + (i : Int)).fmod size).toNat "")) ▸ rfl
          rw [e1]
          refine AEs_nil ?_
          simp only [List.length_map, List.length_range, Int.sub_zero]
          refine OpCall_join_lst ?_ ⟨H, ?_, ?_⟩
          · exact short_sum hsh (fun j => ((head + 1 + (j : Int)).fmod size).toNat) size.toNat (by omega)
          · exact .cons _ (.cons _ (.cons _ (.cons _ (.cons _ (.cons _ (.cons _ (List.Sublist.refl _)))))))
          · rw [← hlead]; exact h
end
section
structure Fn (f : Addr) where
  name : Str
  qual : Str
  params : Arguments
  body : List Stmt
  scope : Scope
  dV : Value
  kV : Value
  doc : Value
  pm : Value
  an : Option Addr
  cdv : Value
  ct : Value
  oc : Value
  od : Option Addr
  osl : Array (Option Value)
  ok : ∀ w, (KF w).lookup f = some ⟨oc, od, .func (fnX name qual params body scope [] dV kV doc pm an cdv ct), osl⟩
noncomputable def lawF : Fn 319 := Fn.mk _ _ _ _ _ _ _ _ _ _ _ _ _ _ _ (fun w => by rfl)
noncomputable abbrev lawCx (w : World) (os : OsState) (base : Heap) (outer : List Env) (A₀ A : Around) (h₀ : Heap) (L : Addr) (X Y : Led) : Cx :=
  ⟨w, os, base, outer, A₀, A, h₀, L, lawF.qual, lawF.scope, 319, lawF.cdv, cellsFrom (L + 1) lawF.scope.names [], X, Y⟩
end
section
section
variable {n k : Nat} {c : Cx} {env : Env} {loc loc' : Loc} {H H' : Own} {P : AV → Own → Prop} {Q : SP} {T : Tmp} {s : Shared} {x y z : Str} {pos : Pos}
theorem ASs_sign {y : String} {x : Str} {kk : Nat} {e2 : Expr} {p1 p2 p3 : Pos} {rest : List Stmt}
    (h : AE c env e2 loc H fun v H1 => ∃ i, v = .int i ∧ fitsSsize i = true ∧ (Txt.charAt x i).isSome = true ∧ ∀ (t n : Nat), 0 < t → t < n → St1 c env (Str.ofString y) (.val (.str (Txt.item x i) t)) loc H1 fun l H2 => ASsP n c env rest l H2 Q)
    (hs : ∀ o i, ∃ ops, subscripted e2 false o i = operate ops (getItem o i) := by intros; exact ⟨_, by with_unfolding_all rfl⟩)
    (hsw : swapsWith (.Subscript (.Constant (.str x) kk p2) e2 p3) (some (.Name (Str.ofString y) p1)) pos.line env = pure false := by with_unfolding_all rfl) :
    ASs c env (.Assign [.Name (Str.ofString y) p1] (.Subscript (.Constant (.str x) kk p2) e2 p3) pos :: rest) loc H Q := fun T s R => by
  refine wpAny_execs_cons (wpAny_Assign_Name (Subscript_ (wpAny_Constant_str (thenWn (n := s.toks + 1) (Nat.le_refl _) (h T _ R.tok) fun v' s1 ht v H1 R1 hx => ?_))) hsw)
  obtain ⟨i, rfl, hr, hin, hh⟩ := hx
  obtain ⟨u, rfl⟩ := R1.isInt (.head _)
  unfold subscriptTail
  refine wpAny_bind (noPy_of (c := c) (typeIs_str s1 x _) PySem.F.slot_str_getitem.lookup ?_)
  obtain ⟨ops, e⟩ := hs (.str x s.toks) (.int i u)
  rw [e]
  refine wpAny_bind (wpAny_operateT (SB.getItem hr hin (wpAny_bind (wpAny_letTemporaryGo (wpAny_pure ?_)))))
  obtain ⟨N, es, m, R1⟩ := R1
  have R2 : Rep c loc H1 ((.val (.str (Txt.item x i) s1.toks), .str (Txt.item x i) s1.toks) :: (.int i, .int i u) :: T) { s1 with toks := s1.toks + 1 } := ((R1.tok (tk := s1.toks + 1)).put (.val _)).rep
  refine wpAny_mono (wpAny_toks_of (n := s1.toks + 1) (Nat.le_refl _) (hh s1.toks (s1.toks + 1) (by omega) (Nat.lt_succ_self _) _ _ _ R2 (.head _))) (fun _ s2 ⟨ht2, l, H2, R3, h3⟩ => ?_) fun _ _ e => e.2
  exact h3 _ _ (R3.sub fun p hp => .tail _ (.tail _ hp)) ht2
theorem AEP_replaceV {o e : Expr} {apos p1 : Pos} {k1 : Nat} {v : Nat} (G : c.Good k) (hv0 : 0 < v) (hvn : v < n)
    (h : AE c env o loc H fun v1 H1 => ∃ x, v1 = .str x ∧ x.length + (x.length + 1) * z.length ≤ 16777216 ∧ AE c env e loc H1 fun v2 H2 => v2 = .val (.str z v) ∧ P (.str (Txt.replace x y z)) H2)
    {pl : Sem Bool} (h1 : eval (.Call (.Attribute o "replace" apos) [.Constant (.str y) k1 p1, e] [] pos) env = (do let ov ← eval o env; standAt apos.atName; let (f, first) ← holding [ov] (getMethod ov "replace" pl); callWith pos f first (backTo pos (starEach [.Constant (.str y) k1 p1, e] env)) []) := by with_unfolding_all rfl)
    (h2 : starEach [e] env = (false, eval e env) :: starEach [] env := by with_unfolding_all rfl) (h3 : ((backTo pos (starEach [e] env)).any (·.1)) = false := by with_unfolding_all rfl) :
    AEP n c env (.Call (.Attribute o "replace" apos) [.Constant (.str y) k1 p1, e] [] pos) loc H P := fun T s R hn' => by
  refine MethodCall_ (thenWn hn' (h T s R) fun v' s1 ht v1 H1 R1 ⟨x, hv, hb, hh⟩ => ?_) h1
  subst hv
  obtain ⟨t, rfl⟩ := R1.isStr (.head _)
  refine GM.replace (PyProof.Rows.callWith_method1 (spliced_more (wpAny_Constant_str ?_)) rfl h3)
  refine spliced_more ?_ h2
  refine thenW (hh _ _ (R1.tok (tk := s1.toks + 1))) fun v2' s2 v2 H2 R2 ⟨hv2, hp⟩ => ?_
  subst hv2
  obtain rfl := R2.isVal (.head _)
  refine spliced_none ?_
  have h0 : s1.toks ≠ 0 := by omega
  refine SC.replaceA h0 (Nat.ne_of_gt hv0) (Nat.ne_of_gt (Nat.lt_of_lt_of_le hvn ht)) hb (fun t' tk => ⟨_, _, ?_, hp⟩) (G.booked R2 rfl)
  obtain ⟨N, es, m, R2⟩ := R2
  exact ((R2.tok.put (.str _ _)).sub fun p hp => by
    rcases List.mem_cons.mp hp with rfl | hp
    · exact .head _
    · exact .tail _ (.tail _ (.tail _ hp))).rep
theorem ASsP_weak {st : List Stmt} (hs : H'.Sublist H) (h : ASsP n c env st loc H' Q) : ASsP n c env st loc H Q := fun T s R hn => h T s (R.weak hs) hn
end
end
section
section
variable {c : Cx} {env : Env} {loc loc' : Loc} {H H' : Own} {P : AV → Own → Prop} {T : Tmp} {s : Shared} {l : List AV} {x : Str}
theorem OpMeth_index : OpMeth c (.lst l) "index" (.builtin "list.index") loc H := fun T s v' pl R m Q E h => by
  obtain ⟨N, es, mm, R⟩ := R
  obtain ⟨ax, vs, n, rfl, hN, hv⟩ := (R.tmp _ m).lst_inv
  · have ho := (R.nw _ (List.mem_append_left _ hN)).1
    exact getMethod_list_of PySem.F.slot_list_index PySem.F.type_list_index ⟨_, ho, rfl, n, rfl⟩ ⟨_, ho, rfl⟩ (h s.toks)
end
theorem mulOk_sp {n : Int} (h0 : -1000 ≤ n) (h1 : n ≤ 1000) : MulOk " " n := by
  have e : (" " : Str).length = 1 := rfl
  refine ⟨?_, fun hn _ => ?_, fun hn _ => ?_⟩
  · have h1 : decide (n < -(2 ^ 63 : Int)) = false := decide_eq_false (by omega)
    have h2 : decide (n ≥ 2 ^ 63) = false := decide_eq_false (by omega)
    rw [h1, h2]; rfl
  · rw [e]
    have : (1 : Int) ≤ (2 ^ 63 - 1) / n := by
      apply Int.le_ediv_of_mul_le (by omega); omega
    omega
  · rw [e]
    unfold Builtin.Str.tooLong
    exact decide_eq_false (by rw [sizeLine_eq]; omega)
noncomputable def placesL (size step marks : Int) : List Int := (List.range marks.toNat).map fun k : Nat => ((k : Int) * step).fmod size
noncomputable def minL (l : List Int) : Int := l.foldl min (l.headD 0)
noncomputable def maxL (l : List Int) : Int := l.foldl max (l.headD 0)
noncomputable def fstI (size step marks : Int) : Int := ((placesL size step marks).idxOf (minL ((placesL size step marks).drop 1)) : Nat)
noncomputable def lstI (size step marks : Int) : Int := ((placesL size step marks).idxOf (maxL (placesL size step marks)) : Nat)
noncomputable def nearI (size step marks : Int) : Int := (placesL size step marks).getD (fstI size step marks).toNat 0
noncomputable def farI (size step marks : Int) : Int := size - (placesL size step marks).getD (lstI size step marks).toNat 0
noncomputable def gapsI (size step marks : Int) : List Int := (Gp.mk marks (fstI size step marks) (lstI size step marks) (nearI size step marks) (farI size step marks)).gaps marks.toNat
noncomputable def whiteA (plain : Bool) : Str := if plain = true then " \t" else "\t "
structure AFacts (size step marks head first last near far : Int) (plain : Bool) (gaps : List Int) : Prop where
  lay : PyData.layable0 (.list ((placesL size step marks).map .int)) = true
  lo : ∀ M, M ∈ (placesL size step marks).drop 1 → (∀ a ∈ (placesL size step marks).drop 1, M ≤ a) → (((placesL size step marks).idxOf M : Nat) : Int) = first
  hi : ∀ M, M ∈ placesL size step marks → (∀ a ∈ placesL size step marks, a ≤ M) → (((placesL size step marks).idxOf M : Nat) : Int) = last
  pf : (placesL size step marks)[first.toNat]? = some near
  pl : (placesL size step marks)[last.toNat]? = some (size - far)
  f0 : 0 ≤ first
  f1 : first ≤ 100
  l0 : 0 ≤ last
  l1 : last ≤ 100
  g : (Gp.mk marks first last near far).gaps marks.toNat = gaps
  gp : ∀ g ∈ gaps, 1 ≤ g ∧ g ≤ 100
  gl : gaps.length ≤ 100
  fit : rowsFit size head (leadRows size step marks head (whiteA plain))
  eqs : first = fstI size step marks ∧ last = lstI size step marks ∧ near = nearI size step marks ∧ far = farI size step marks ∧ gaps = gapsI size step marks
  lead : leadOf size step marks head (whiteA plain) = Str.join "" (gaps.map fun g => Txt.mul " " (g - 1) ++ "\t")
noncomputable abbrev Lc (script drawn plain marks head sign spare places first last near far gaps lead pairs counts read about pieces text written spread width maker letter runs other part : Option AV) : Loc :=
  [("script", script), ("drawn", drawn), ("plain", plain), ("marks", marks), ("head", head), ("sign", sign), ("spare", spare), ("places", places), ("first", first), ("last", last), ("near", near), ("far", far), ("gaps", gaps), ("lead", lead), ("pairs", pairs), ("counts", counts), ("read", read), ("about", about), ("pieces", pieces), ("text", text), ("written", written), ("spread", spread), ("width", width), ("maker", maker), ("letter", letter), ("runs", runs), ("other", other), ("part", part)]
noncomputable abbrev Hc (L : Addr) (white name t step size : Option AV) (H : Own) : Own := (L + 1 + 1 + 1 + 1 + 1, .cell white) :: (L + 1 + 1 + 1 + 1, .cell name) :: (L + 1 + 1 + 1, .cell t) :: (L + 1 + 1, .cell step) :: (L + 1, .cell size) :: H
theorem mul_sp (n : Int) : Txt.mul " " n = ⟨(List.replicate n.toNat 32).toArray⟩ := by
  unfold Txt.mul
  split
  · rename_i h
    have : n.toNat = 0 := by omega
    rw [this]; rfl
  · split
    · rename_i h1 h
      have e0 : (" " : Str).length = 1 := rfl
      have h : n = 1 := by simpa [e0] using h
      subst h; rfl
    · have e : ∀ (m : Nat) (acc : Array Nat), List.foldl (fun x1 x2 => x1 ++ x2) acc (List.replicate m (#[32] : Array Nat)) = acc ++ (List.replicate m 32).toArray := fun m => by
        induction m with
        | zero => intro acc; simp
        | succ m ih => intro acc; rw [List.replicate_succ, List.foldl_cons, ih, List.replicate_succ]; apply Array.toList_inj.mp; simp
      have e2 : (" " : Str).cps = #[32] := rfl
      rw [e2, e]
      congr 1
      simp
theorem mul_sp_len (n : Int) : (Txt.mul " " n).length = n.toNat := by
  rw [mul_sp]
  show (List.replicate n.toNat 32).toArray.size = _
  simp
theorem sum_le_of {l : List Nat} {b : Nat} (h : ∀ x ∈ l, x ≤ b) : l.sum ≤ l.length * b := by
  induction l with
  | nil => simp
  | cons a r ih =>
    rw [List.sum_cons, List.length_cons, Nat.succ_mul]
    have := h a (by simp)
    have := ih fun x hx => h x (List.mem_cons_of_mem _ hx)
    omega
section
variable {c : Cx} {env : Env} {loc : Loc} {H : Own} {P : AV → Own → Prop} {pos : Pos}
theorem AE_ifstr {t : Expr} {a b : Str} {k1 k2 : Nat} {p1 p2 : Pos} (B : Bool) (h : AB c env t loc H fun b H1 => b = B ∧ H1 = H) (hp : P (.str (if B = true then a else b)) H) : AE c env (.IfExp t (.Constant (.str a) k1 p1) (.Constant (.str b) k2 p2) pos) loc H P :=
  AE_ifexpB B h (fun hb => AE_str (by rw [if_pos hb] at hp; exact hp)) (fun hb => AE_str (by rw [if_neg (by rw [hb]; decide)] at hp; exact hp))
end
theorem filterMap_map {α : Type} (l : List α) (f : α → AV) : (List.range l.length).filterMap (fun i => (l[i]?).bind fun a => some (f a)) = l.map f := by
  rw [filterMap_range l fun a => some (f a)]
  exact List.filterMap_eq_map' (f := f) ▸ rfl
theorem gcd_fact {size step : Int} (h1 : 5 ≤ size) (h2 : size ≤ 8) (h3 : 1 ≤ step) (h4 : step < size) : 1 ≤ (Nat.gcd size.toNat step.toNat : Nat) ∧ 2 ≤ size.fdiv (Nat.gcd size.toNat step.toNat : Nat) := by
  have g1 : Nat.gcd size.toNat step.toNat ∣ size.toNat := Nat.gcd_dvd_left _ _
  have g2 : Nat.gcd size.toNat step.toNat ≤ step.toNat := Nat.gcd_le_right _ (by omega)
  have g3 : 0 < Nat.gcd size.toNat step.toNat := Nat.gcd_pos_of_pos_left _ (by omega)
  generalize Nat.gcd size.toNat step.toNat = g at *
  refine ⟨g3, ?_⟩
  rw [Int.fdiv_eq_ediv_of_nonneg _ (by omega)]
  obtain ⟨m, hm⟩ := g1
  have hs : size = (g : Int) * (m : Int) := by
    have : ((g * m : Nat) : Int) = (g : Int) * (m : Int) := by push_cast; rfl
    omega
  rw [hs, Int.mul_ediv_cancel_left _ (by omega)]
  have : m ≠ 0 := by rintro rfl; simp at hm; omega
  have : m ≠ 1 := by rintro rfl; simp at hm; omega
  omega
set_option maxHeartbeats 16000000 in
theorem lawA {k : Nat} {w : World} {os : OsState} {base : Heap} {outer : List Env} {A₀ A : Around} {h₀ : Heap} {L : Addr} {X Y : Led} {H : Own} {Q : SP} {ns : List Int} :
    let c : Cx := lawCx w os base outer A₀ A h₀ L X Y
    c.Good (k + 10) → Tabs H → ns.length ≤ 63 →
    (∀ size step marks head plain, 5 ≤ size → size ≤ 8 → 1 ≤ step → step < size → 2 ≤ marks → marks ≤ size.fdiv (Nat.gcd size.toNat step.toNat : Nat) → 0 ≤ head → head ≤ size → ∃ first last near far gaps, AFacts size step marks head first last near far plain gaps) →
    (∀ size step marks head plain first last near far gaps y spare (d : List Int) (n t : Nat), 5 ≤ size → size ≤ 8 → 1 ≤ step → step < size → 2 ≤ marks → marks ≤ size.fdiv (Nat.gcd size.toNat step.toNat : Nat) → 0 ≤ head → head ≤ size → AFacts size step marks head first last near far plain gaps →
      0 ≤ spare → spare < 3 → (∃ i : Int, 0 ≤ i ∧ i < 7 ∧ y = Txt.item "\t\n\r&<>\"" i) → d.length = 5 → (∀ x ∈ d, 0 ≤ x ∧ x ≤ 1000000000) → 0 < t → t < n →
      ASsP n c c.env (lawF.body.drop 16)
        (Lc (some (.blst (ns.map AV.int))) (some (.lst (d.map AV.int))) (some (.bool plain)) (some (.int marks)) (some (.int head)) (some (.val (.str y t))) (some (.int spare)) (some (.lst ((placesL size step marks).map AV.int))) (some (.int first)) (some (.int last)) (some (.int near)) (some (.int far)) (some (.lst (gaps.map AV.int)))
          (some (.str (Str.join "" (gaps.map fun g => Txt.mul " " (g - 1) ++ "\t")))) none none none none none none none none none none none none none none) (Hc L none none none (some (.int step)) (some (.int size)) H) Q) →
    ASs c c.env lawF.body
      (Lc (some (.blst (ns.map AV.int))) none none none none none none none none none none none none none none none none none none none none none none none none none none none) (Hc L none none none none none H) Q := by
  intro c G TB hl facts hcont
  have hcS : c.cells.lookup (Str.ofString "size") = some (L + 1) := by rfl
  have hcT : c.cells.lookup (Str.ofString "step") = some (L + 1 + 1) := by rfl
  have hkS : c.scope.names.lookup (Str.ofString "size") = some .cell := by rfl
  have hkT : c.scope.names.lookup (Str.ofString "step") = some .cell := by rfl
  dsimp only [lawF]
  refine ASs_cons (AS_assign (AE_callf 276 G (fun w => by kernel_rfl) ?_))
  refine AE_global (by assumption) (fun w => by rfl) (by rfl) (fun B N => .ref _) ⟨rfl, ?_⟩
  refine AEs_cons ?_; refine AE_local (by assumption) (.head _) ?_; refine AEs_nil ?_
  refine OpCall_of G (drawn_spec hl fun d hd5 hdb => ?_)
  (with_reducible refine St1_local (by assumption) (by with_reducible repeat first | exact SetL.head | apply SetL.tail) ?_)
  obtain ⟨d0, d1, d2, d3, d4, rfl⟩ := ln5 hd5
  obtain ⟨b0, b0'⟩ := hdb d0 (by simp)
  obtain ⟨b1, b1'⟩ := hdb d1 (by simp)
  obtain ⟨b2, b2'⟩ := hdb d2 (by simp)
  obtain ⟨b3, b3'⟩ := hdb d3 (by simp)
  obtain ⟨b4, b4'⟩ := hdb d4 (by simp)
  refine ASs_cons (AS_assign ?_)
  refine AE_binop ?_; refine AE_int ?_; refine AE_binop ?_; refine AE_subg ?_; refine AE_local (by assumption) (mi 1 rfl) ?_; refine AE_int ?_
  refine ⟨NoPy_lst, OpG_lst (by decide) (by decide) (by rfl) ?_⟩
  refine AE_int ?_
  refine OpB_mod (by decide) (OpB_add ?_)
  refine St1_cell G hcS hkS (by with_reducible repeat first | exact At.head | apply At.tail) ?_
  have e4 : d0.fmod 4 = d0 % 4 := Int.fmod_eq_emod_of_nonneg _ (by decide)
  rw [e4]
  refine ASs_cons (AS_assign ?_)
  refine AE_compare ?_; refine AE_binop ?_; refine AE_binop ?_; refine AE_subg ?_; refine AE_local (by assumption) (mi 1 rfl) ?_; refine AE_int ?_
  refine ⟨NoPy_lst, OpG_lst (by decide) (by decide) (by rfl) ?_⟩
  refine AE_int ?_
  refine OpB_div (by decide) (noPy (by omega)) ?_
  refine AE_int ?_
  refine OpB_mod (by decide) ?_
  refine AE_int ?_
  refine OpC_eq ?_
  (with_reducible refine St1_local (by assumption) (by with_reducible repeat first | exact SetL.head | apply SetL.tail) ?_)
  generalize hpl : decide ((d0.fdiv 4).fmod 2 = 0) = plain
  generalize hsz : 5 + d0 % 4 = size
  have hsz1 : 5 ≤ size := by omega
  have hsz2 : size ≤ 8 := by omega
  refine ASs_cons (AS_assign ?_)
  refine AE_binop ?_; refine AE_int ?_; refine AE_binop ?_; refine AE_subg ?_; refine AE_local (by assumption) (mi 1 rfl) ?_; refine AE_int ?_
  refine ⟨NoPy_lst, OpG_lst (by decide) (by decide) (by rfl) ?_⟩
  refine AE_binop ?_
  (refine AE_cell (by assumption) (by assumption) (mi 4 rfl) (by rfl) ?_)
  refine AE_int ?_
  refine OpB_sub (OpB_mod (by omega) (OpB_add ?_))
  have e1a : 0 ≤ d1.fmod (size - 1) := Int.fmod_nonneg b1 (by omega)
  have e1b : d1.fmod (size - 1) < size - 1 := Int.fmod_lt_of_pos _ (by omega)
  generalize hstep : 1 + d1.fmod (size - 1) = step
  have hst1 : 1 ≤ step := by omega
  have hst2 : step < size := by omega
  refine St1_cell G hcT hkT (by with_reducible repeat first | exact At.head | apply At.tail) ?_
  obtain ⟨hg1, hg2⟩ := gcd_fact hsz1 hsz2 hst1 hst2
  refine ASs_cons (AS_assign ?_)
  refine AE_binop ?_; refine AE_int ?_; refine AE_binop ?_; refine AE_subg ?_; refine AE_local (by assumption) (mi 1 rfl) ?_; refine AE_int ?_
  refine ⟨NoPy_lst, OpG_lst (by decide) (by decide) (by rfl) ?_⟩
  refine AE_binop ?_; refine AE_binop ?_
  (refine AE_cell (by assumption) (by assumption) (mi 4 rfl) (by rfl) ?_)
  refine AE_callf 283 G (fun w => by kernel_rfl) ?_
  refine AE_global (by assumption) (fun w => by rfl) (by rfl) (fun B N => .ref _) ⟨rfl, ?_⟩
  refine AEs_cons ?_; (refine AE_cell (by assumption) (by assumption) (mi 4 rfl) (by rfl) ?_)
  refine AEs_cons ?_; (refine AE_cell (by assumption) (by assumption) (mi 3 rfl) (by rfl) ?_)
  refine AEs_nil ?_
  refine OpCall_of G (measure_spec (by omega) (by omega) ?_)
  refine OpB_div (by omega) (noPy (by omega)) ?_
  refine AE_int ?_
  refine OpB_sub (OpB_mod (by omega) (OpB_add ?_))
  have e2a : 0 ≤ d2.fmod (size.fdiv (Nat.gcd size.toNat step.toNat : Nat) - 1) := Int.fmod_nonneg b2 (by omega)
  have e2b : d2.fmod (size.fdiv (Nat.gcd size.toNat step.toNat : Nat) - 1) < size.fdiv (Nat.gcd size.toNat step.toNat : Nat) - 1 := Int.fmod_lt_of_pos _ (by omega)
  generalize hmarks : 2 + d2.fmod (size.fdiv (Nat.gcd size.toNat step.toNat : Nat) - 1) = marks
  have hmk1 : 2 ≤ marks := by omega
  have hmk2 : marks ≤ size.fdiv (Nat.gcd size.toNat step.toNat : Nat) := by omega
  have hmk3 : marks ≤ 8 := by
    rw [Int.fdiv_eq_ediv_of_nonneg _ (by omega)] at hmk2
    have := Int.ediv_le_self (a := size) (Nat.gcd size.toNat step.toNat : Nat) (by omega)
    omega
  (with_reducible refine St1_local (by assumption) (by with_reducible repeat first | exact SetL.head | apply SetL.tail) ?_)
  refine ASs_cons (AS_assign ?_)
  refine AE_binop ?_; refine AE_subg ?_; refine AE_local (by assumption) (mi 1 rfl) ?_; refine AE_int ?_
  refine ⟨NoPy_lst, OpG_lst (by decide) (by decide) (by rfl) ?_⟩
  refine AE_binop ?_
  (refine AE_cell (by assumption) (by assumption) (mi 4 rfl) (by rfl) ?_)
  refine AE_int ?_
  refine OpB_add (OpB_mod (by omega) ?_)
  have e3a : 0 ≤ d3.fmod (size + 1) := Int.fmod_nonneg b3 (by omega)
  have e3b : d3.fmod (size + 1) < size + 1 := Int.fmod_lt_of_pos _ (by omega)
  generalize hhead : d3.fmod (size + 1) = head at e3a e3b ⊢
  (with_reducible refine St1_local (by assumption) (by with_reducible repeat first | exact SetL.head | apply SetL.tail) ?_)
  refine ASs_sign ?_
  refine AE_binop ?_; refine AE_binop ?_; refine AE_subg ?_; refine AE_local (by assumption) (mi 1 rfl) ?_; refine AE_int ?_
  refine ⟨NoPy_lst, OpG_lst (by decide) (by decide) (by rfl) ?_⟩
  refine AE_int ?_
  refine OpB_div (by decide) (noPy (by omega)) ?_
  refine AE_int ?_
  refine OpB_mod (by decide) ?_
  have e5a : 0 ≤ (d3.fdiv 8).fmod 7 := Int.fmod_nonneg (Int.fdiv_nonneg b3 (by decide)) (by decide)
  have e5b : (d3.fdiv 8).fmod 7 < 7 := Int.fmod_lt_of_pos _ (by decide)
  generalize hsi : (d3.fdiv 8).fmod 7 = si at e5a e5b ⊢
  refine ⟨_, rfl, by unfold fitsSsize; simp; omega, charAt_in e5a (by show si < 7; exact e5b), fun t n ht0 htn => ?_⟩
  (with_reducible refine St1_local (by assumption) (by with_reducible repeat first | exact SetL.head | apply SetL.tail) ?_)
  refine ASsP_cons (AS.p (AS_assign ?_))
  refine AE_binop ?_; refine AE_subg ?_; refine AE_local (by assumption) (mi 1 rfl) ?_; refine AE_int ?_
  refine ⟨NoPy_lst, OpG_lst (by decide) (by decide) (by rfl) ?_⟩
  refine AE_int ?_
  refine OpB_mod (by decide) ?_
  have e6a : 0 ≤ d4.fmod 3 := Int.fmod_nonneg b4 (by decide)
  have e6b : d4.fmod 3 < 3 := Int.fmod_lt_of_pos _ (by decide)
  generalize hspare : d4.fmod 3 = spare at e6a e6b ⊢
  (with_reducible refine St1_local (by assumption) (by with_reducible repeat first | exact SetL.head | apply SetL.tail) ?_)
  obtain ⟨first, last, near, far, gaps, F⟩ := facts size step marks head plain hsz1 hsz2 hst1 hst2 hmk1 hmk2 e3a (by omega)
  have hF0 := F.f0
  have hF1 := F.f1
  have hF2 := F.l0
  have hF3 := F.l1
  have hpl8 : (placesL size step marks).length = marks.toNat := by simp [placesL]
  refine ASsP_cons (AS.p (AS_listcomp (cl := [(Str.ofString "step", L + 1 + 1), (Str.ofString "size", L + 1)]) G ["k"] ?_ ?_))
  · refine closure_of ?_
    rfl
  · refine AE_callt "range" ?_
    with_reducible refine AE_builtin (by assumption) (fun _ => by with_unfolding_all rfl) (by with_unfolding_all rfl) (by decide) (by with_unfolding_all rfl) ?_
    refine ⟨rfl, ?_⟩
    refine AEs_cons ?_; refine AE_local (by assumption) (mi 3 rfl) ?_; refine AEs_nil ?_
    refine OpCall_range1 ⟨_, fun i => some (.int (((i : Nat) : Int) * step |>.fmod size)), It_up (by decide) (by decide) (by omega) (by omega), by simp; omega, ?_, ?_⟩
    · intro X Y C D l i x ys hx hl
      have G' := G.wX (X := X) (Y := Y)
      obtain ⟨u, rfl⟩ := names1 hl
      have hin : i < marks.toNat := by
        have := (List.getElem?_eq_some_iff.mp hx).1
        simp at this; omega
      obtain rfl : x = .int i := by
        rw [List.getElem?_map, List.getElem?_range (by omega)] at hx
        simp at hx; exact hx.symm
      refine As1_name ?_
      (refine St1_ns rfl (by first | rfl | with_unfolding_all rfl) (by first | rfl | with_unfolding_all rfl) At.head SetL.head ?_)
      refine ⟨rfl, _, rfl, rfl, ATs_nil ⟨rfl, fun _ => ?_, fun hh => by cases hh⟩⟩
      refine AE_binop ?_; refine AE_binop ?_
      (refine AE_ns (by with_unfolding_all rfl) rfl (.head _) (.head _) (by with_unfolding_all rfl) ?_)
      refine AE_cellE (ca := L + 1 + 1) (by with_unfolding_all rfl) (by rfl) (mi 5 rfl) (by with_unfolding_all rfl) ?_
      refine OpB_mul (mulSmall (by omega)) ?_
      refine AE_cellE (ca := L + 1) (by with_unfolding_all rfl) (by rfl) (mi 6 rfl) (by with_unfolding_all rfl) ?_
      refine OpB_mod (by omega) ⟨rfl, rfl⟩
    · intro C l
      have e1 : ∀ n, ((List.range n).filterMap fun i : Nat => some (AV.int (((i : Nat) : Int) * step |>.fmod size))) = (((List.range n).map fun k : Nat => ((k : Int) * step).fmod size)).map AV.int := fun n => by
        rw [List.map_map]
        exact List.filterMap_eq_map' (f := fun i : Nat => AV.int (((i : Nat) : Int) * step |>.fmod size)) ▸ rfl
      have e2 : ((List.range (List.map (fun i : Nat => AV.int (0 + (i : Int))) (List.range (marks - 0).toNat)).length).filterMap fun i : Nat => some (AV.int (((i : Nat) : Int) * step |>.fmod size))) = (placesL size step marks).map AV.int := by
        rw [e1, List.length_map, List.length_range, Int.sub_zero]; rfl
      rw [e2]
      (with_reducible refine St1_local (by assumption) (by with_reducible repeat first | exact SetL.head | apply SetL.tail) ?_)
      refine ⟨_, rfl, ?_⟩
      refine ASsP_cons (AS.p (AS_assign (AE_methb "list.index" ?_)))
      refine AE_local (by assumption) (mi 7 rfl) ?_
      refine ⟨OpMeth_index, AEs_cons (AE_callb "min" ?_)⟩
      with_reducible refine AE_builtin (by assumption) (fun _ => by with_unfolding_all rfl) (by with_unfolding_all rfl) (by decide) (by with_unfolding_all rfl) ?_
      refine ⟨rfl, ?_⟩
      refine AEs_cons ?_; refine AE_subg ?_; refine AE_local (by assumption) (mi 7 rfl) ?_
      refine AE_slice (AEO_some ?_)
      refine AE_int ?_
      refine ⟨_, rfl, AEO_none (AEO_none ⟨NoPy_lst, OpG_lst_from (j := 1) (by rw [List.length_map]; omega) (by rw [List.length_map]; omega) ?_⟩)⟩
      rw [← List.map_drop]
      refine AEs_nil ?_
      refine OpCall_min_lst G (by rw [List.length_drop]; omega) fun M hM1 hM2 => ?_
      refine AEs_nil ?_
      refine OpCall_index_lst F.lay (List.mem_of_mem_drop hM1) ?_
      rw [F.lo M hM1 hM2]
      (with_reducible refine St1_local (by assumption) (by with_reducible repeat first | exact SetL.head | apply SetL.tail) ?_)
      refine ASsP_cons (AS.p (AS_assign (AE_methb "list.index" ?_)))
      refine AE_local (by assumption) (mi 7 rfl) ?_
      refine ⟨OpMeth_index, AEs_cons (AE_callb "max" ?_)⟩
      with_reducible refine AE_builtin (by assumption) (fun _ => by with_unfolding_all rfl) (by with_unfolding_all rfl) (by decide) (by with_unfolding_all rfl) ?_
      refine ⟨rfl, ?_⟩
      refine AEs_cons ?_; refine AE_local (by assumption) (mi 7 rfl) ?_; refine AEs_nil ?_
      refine OpCall_max_lst G (by omega) fun M' hM1' hM2' => ?_
      refine AEs_nil ?_
      refine OpCall_index_lst F.lay hM1' ?_
      rw [F.hi M' hM1' hM2']
      (with_reducible refine St1_local (by assumption) (by with_reducible repeat first | exact SetL.head | apply SetL.tail) ?_)
      refine ASsP_cons (AS.p (AS_assign ?_))
      refine AE_subg ?_; refine AE_local (by assumption) (mi 7 rfl) ?_; refine AE_local (by assumption) (mi 8 rfl) ?_
      refine ⟨NoPy_lst, OpG_lst (x := .int near) hF0 (by omega) (by rw [List.getElem?_map, F.pf]; rfl) ?_⟩
      (with_reducible refine St1_local (by assumption) (by with_reducible repeat first | exact SetL.head | apply SetL.tail) ?_)
      refine ASsP_cons (AS.p (AS_assign ?_))
      refine AE_binop ?_
      (refine AE_cell (by assumption) (by assumption) (mi 4 rfl) (by rfl) ?_)
      refine AE_subg ?_; refine AE_local (by assumption) (mi 7 rfl) ?_; refine AE_local (by assumption) (mi 9 rfl) ?_
      refine ⟨NoPy_lst, OpG_lst (x := .int (size - far)) hF2 (by omega) (by rw [List.getElem?_map, F.pl]; rfl) (OpB_sub ?_)⟩
      have hfar : size - (size - far) = far := by omega
      rw [hfar]
      (with_reducible refine St1_local (by assumption) (by with_reducible repeat first | exact SetL.head | apply SetL.tail) ?_)
      refine ASsP_cons (AS.p (AS_assign (AE_callf 295 G (fun w => by kernel_rfl) ?_)))
      refine AE_global (by assumption) (fun w => by rfl) (by rfl) (fun B N => .ref _) ⟨rfl, ?_⟩
      refine AEs_cons ?_; refine AE_local (by assumption) (mi 3 rfl) ?_; refine AEs_cons ?_; refine AE_local (by assumption) (mi 8 rfl) ?_; refine AEs_cons ?_; refine AE_local (by assumption) (mi 9 rfl) ?_; refine AEs_cons ?_; refine AE_local (by assumption) (mi 10 rfl) ?_; refine AEs_cons ?_; refine AE_local (by assumption) (mi 11 rfl) ?_; refine AEs_nil ?_
      refine OpCall_of G (gaps_spec (k := k + 9) (g := ⟨marks, first, last, near, far⟩) (by show 0 ≤ marks; omega) (by show marks ≤ 1000; omega) ?_)
      show St1 _ _ _ (.lst (((Gp.mk marks first last near far).gaps marks.toNat).map AV.int)) _ _ _
      rw [F.g]
      (with_reducible refine St1_local (by assumption) (by with_reducible repeat first | exact SetL.head | apply SetL.tail) ?_)
      refine ASsP_cons (AS.p (AS_assign (AE_callf 288 G (fun w => by kernel_rfl) ?_)))
      refine AE_global (by assumption) (fun w => by rfl) (by rfl) (fun B N => .ref _) ⟨rfl, ?_⟩
      refine AEs_cons ?_; (refine AE_cell (by assumption) (by assumption) (mi 4 rfl) (by rfl) ?_); refine AEs_cons ?_; (refine AE_cell (by assumption) (by assumption) (mi 3 rfl) (by rfl) ?_); refine AEs_cons ?_; refine AE_local (by assumption) (mi 3 rfl) ?_; refine AEs_cons ?_; refine AE_local (by assumption) (mi 4 rfl) ?_
      refine AEs_cons (AE_ifstr plain (AB_plain ?_) ?_)
      · refine AE_local (by assumption) (mi 2 rfl) ?_
        exact OpT_bool ⟨rfl, rfl⟩
      refine AEs_nil ?_
      refine OpCall_of G (lead_spec (k := k + 2) TB.cons.cons.cons.cons.cons (by omega) (by omega) hst1 (by omega) (by omega) (by omega) e3a (by omega) ?_ ?_ ?_ F.fit ?_)
      · cases plain <;> decide +kernel
      · cases plain <;> decide
      · cases plain <;> decide
      have hld := F.lead
      unfold whiteA at hld
      rw [hld]
      (with_reducible refine St1_local (by assumption) (by with_reducible repeat first | exact SetL.head | apply SetL.tail) ?_)
      refine ASsP_cons (AS.p (AS_if (AB_compare ?_)))
      refine AE_local (by assumption) (mi 13 rfl) ?_
      refine AE_methb "str.join" ?_
      refine AE_str ?_
      refine ⟨OpMeth_str fun t => GM.join, AEs_cons (AE_listcomp (cl := []) G ["gap"] (closure_of (by rfl)) ?_)⟩
      refine AE_local (by assumption) (mi 12 rfl) ?_
      have hgl := F.gl
      refine ⟨gaps.map AV.int, fun i => (gaps[i]?).bind fun g => some (.str (Txt.mul " " (g - 1) ++ "\t")), It_lst, by rw [List.length_map]; omega, ?_, ?_⟩
      · intro X Y C D l i x ys hx hl
        have G' := G.wX (X := X) (Y := Y)
        obtain ⟨u, rfl⟩ := names1 hl
        obtain ⟨g, hgi, rfl⟩ : ∃ g, gaps[i]? = some g ∧ x = .int g := by
          rw [List.getElem?_map] at hx
          cases e : gaps[i]? with
          | none => rw [e] at hx; cases hx
          | some p => rw [e] at hx; exact ⟨p, rfl, (Option.some.inj hx).symm⟩
        obtain ⟨hg1, hg2⟩ := F.gp g (List.mem_of_getElem? hgi)
        refine As1_name ?_
        (refine St1_ns rfl (by first | rfl | with_unfolding_all rfl) (by first | rfl | with_unfolding_all rfl) At.head SetL.head ?_)
        refine ⟨rfl, _, rfl, rfl, ATs_nil ⟨rfl, fun _ => ?_, fun hh => by cases hh⟩⟩
        refine AE_binop ?_; refine AE_binop ?_; refine AE_str ?_; refine AE_binop ?_
        (refine AE_ns (by with_unfolding_all rfl) rfl (.head _) (.head _) (by with_unfolding_all rfl) ?_)
        refine AE_int ?_
        refine OpB_sub (OpB_rep (mulOk_sp (by omega) (by omega)) ?_)
        refine AE_str ?_
        refine OpB_cat (by rw [mul_sp_len, sizeLine_eq]; have : ("\t" : Str).length = 1 := rfl; omega) ⟨rfl, ?_⟩
        show (gaps[i]?).bind _ = _
        rw [hgi]; rfl
      · have e3 : ((List.range (List.map AV.int gaps).length).filterMap fun i => (gaps[i]?).bind fun g => some (AV.str (Txt.mul " " (g - 1) ++ "\t"))) = (gaps.map fun g => Txt.mul " " (g - 1) ++ "\t").map AV.str := by
          rw [List.length_map, filterMap_map gaps fun g => AV.str (Txt.mul " " (g - 1) ++ "\t"), List.map_map]; rfl
        rw [e3]
        refine AEs_nil ?_
        refine OpCall_join_lst ?_ ?_
        · have hb : ((gaps.map fun g => Txt.mul " " (g - 1) ++ "\t").map (·.length)).sum ≤ ((gaps.map fun g => Txt.mul " " (g - 1) ++ "\t").map (·.length)).length * 200 := by
            refine sum_le_of fun x hx => ?_
            rw [List.map_map] at hx
            obtain ⟨g, hg, rfl⟩ := List.mem_map.mp hx
            obtain ⟨hg1, hg2⟩ := F.gp g hg
            show (Txt.mul " " (g - 1) ++ "\t").length ≤ 200
            rw [slen_app, mul_sp_len]; have : ("\t" : Str).length = 1 := rfl; omega
          rw [List.length_map, List.length_map] at hb
          rw [List.length_map]
          have : ("" : Str).length = 0 := rfl
          rw [this]; omega
        · refine OpC_sne ⟨_, rfl, fun hb => absurd hb (by simp), fun _ => ASs_nil ?_⟩
          exact hcont size step marks head plain first last near far gaps _ spare [d0, d1, d2, d3, d4] n t hsz1 hsz2 hst1 hst2 hmk1 hmk2 e3a (by omega) F e6a e6b ⟨si, e5a, e5b, rfl⟩ rfl hdb ht0 htn
end
section
noncomputable abbrev psOf (marks first last near far : Int) : List (Int × Int) := [(near, marks - first), (far, marks - last), (near + far, first + last - marks)]
noncomputable def rawOf (lead : Str) (spare : Int) : Str := lead ++ Txt.mul " " spare ++ "x\t "
noncomputable def aboutOf (lead : Str) (spare : Int) : Str := sslice (sslice lead none (some (-1)) none) none none (some (-1)) ++ "\t" ++ Txt.mul " " spare
structure BFacts (size marks first last near far spare : Int) (lead : Str) (cnt : List Nat) : Prop where
  pos : ∀ p ∈ psOf marks first last near far, p.2 > 0 → 1 ≤ p.1 ∧ p.1 ≤ 1000
  ne : 0 < (posGaps (psOf marks first last near far)).length
  cts : ∀ M, M ∈ posGaps (psOf marks first last near far) → (∀ a ∈ posGaps (psOf marks first last near far), a ≤ M) → cfold (psOf marks first last near far) M = cnt.map fun x => ((x : Nat) : Int)
  wn : (((wsOf (rawOf lead spare)).n : Nat) : Int) = size + spare
  wt : (((wsOf (rawOf lead spare)).nt : Nat) : Int) = marks
  wc : (wsOf (rawOf lead spare)).cnt = cnt
  wb : (((wsOf (rawOf lead spare)).b : Nat) : Int) = spare
  c1 : 1 ≤ cnt.length
  c2 : cnt.length ≤ 1000
  ind : ∀ t : Nat, 1 ≤ t → (t : Int) ≤ size + 1 → spare + (t : Int) * ((ilev t cnt (cnt.length - t) : Nat) + marks) = spare + (t : Int) * ((psOf marks first last near far).map fun (p : Int × Int) => p.2 * (p.1 + (t : Int) - 1).fdiv (t : Int)).sum
  ac : (wsOf (aboutOf lead spare)).cnt = cnt
  ab : (((wsOf (aboutOf lead spare)).b : Nat) : Int) = spare
  an : ¬ ((wsOf (aboutOf lead spare ++ " ")).cnt = cnt ∧ (((wsOf (aboutOf lead spare ++ " ")).b : Nat) : Int) = spare)
  ll : lead.length ≤ 100
  sm : ∀ p ∈ psOf marks first last near far, -1000 ≤ p.1 ∧ p.1 ≤ 1000 ∧ -1000 ≤ p.2 ∧ p.2 ≤ 1000
  l1 : (sslice lead none (some (-1)) none).length ≤ 100
  l2 : (sslice (sslice lead none (some (-1)) none) none none (some (-1))).length ≤ 100
theorem OpC_ne3 {c : Cx} {k : Nat} {loc : Loc} {H : Own} {P : AV → Own → Prop} {a b : Int} {cnt : List Nat} {d : Nat} (G : c.Good k) (h : P (.bool false) H) : OpC c .NotEq (.tup [.int a, .int b, normAV cnt d]) (.tup [.int a, .int b, normAV cnt d]) loc H P := by
  have e : (AV.tup [.int a, .int b, normAV cnt d]).data = .tuple [.int a, .int b, .tuple [.tuple (cnt.map fun x => PyData.int (x : Nat)), .int d]] := by
    have := norm_data cnt d
    simp only [AV.data, AV.datas, datas_nats]
  have hs : SeqAt.shaped (.tuple [.int a, .int b, .tuple [.tuple (cnt.map fun x => PyData.int (x : Nat)), .int d]]) = true := by
    simp [SeqAt.shaped, PyData.canLay0, PyData.canLayAll0, lay_nats, PyData.depth, PyData.depthAll, depth_nats]
  have hk : (AV.tup [.int a, .int b, normAV cnt d]).dok = true := by simp [normAV, AV.dok, AV.doks, doks_nats]
  refine OpC_dne G hk hk (by rw [e]; exact hs) (by rw [e]; exact hs) ?_ ?_
  · rw [e]; simp [SeqAt.noMix, SeqAt.noMixAll, mix_nats]
  · rw [e]
    have : PySem.Spec.same (.tuple [.int a, .int b, .tuple [.tuple (cnt.map fun x => PyData.int (x : Nat)), .int d]]) (.tuple [.int a, .int b, .tuple [.tuple (cnt.map fun x => PyData.int (x : Nat)), .int d]]) = true := by
      simp [PySem.Spec.same, PySem.Spec.sameAll, same_nats]
    rw [this]; exact h
set_option maxHeartbeats 16000000 in
theorem lawB {k : Nat} {w : World} {os : OsState} {base : Heap} {outer : List Env} {A₀ A : Around} {h₀ : Heap} {L : Addr} {X Y : Led} {H : Own} {Q : SP} {n : Nat} {size step marks first last near far spare : Int} {leadS : Str} {cnt : List Nat} {script drawn plain head sign places gaps : Option AV} :
    let c : Cx := lawCx w os base outer A₀ A h₀ L X Y
    c.Good (k + 10) → 5 ≤ size → size ≤ 8 → 2 ≤ marks → marks ≤ 8 → 0 ≤ spare → spare < 3 → BFacts size marks first last near far spare leadS cnt →
    (∀ (rd : Addr) (wn wt wb : Nat), (wt : Int) = marks → (wb : Int) = spare → ASsP n c c.env (lawF.body.drop 20)
        (Lc script drawn plain (some (.int marks)) head sign (some (.int spare)) places (some (.int first)) (some (.int last)) (some (.int near)) (some (.int far)) gaps (some (.str leadS)) (some (.lst (prs (psOf marks first last near far)))) (some (.tup (nats cnt))) (some (.ref rd)) none none none none none none none none none none none) ((rd, .inst 244 (WsF (rawOf leadS spare) wn wt cnt wb)) :: Hc L none none none (some (.int step)) (some (.int size)) H) Q) →
    ASsP n c c.env (lawF.body.drop 16)
      (Lc script drawn plain (some (.int marks)) head sign (some (.int spare)) places (some (.int first)) (some (.int last)) (some (.int near)) (some (.int far)) gaps (some (.str leadS)) none none none none none none none none none none none none none none) (Hc L none none none (some (.int step)) (some (.int size)) H) Q := by
  intro c G hsz1 hsz2 hmk1 hmk2 hsp1 hsp2 F hcont
  have hcS : c.cells.lookup (Str.ofString "size") = some (L + 1) := by rfl
  have hcT : c.cells.lookup (Str.ofString "t") = some (L + 1 + 1 + 1) := by rfl
  have hkS : c.scope.names.lookup (Str.ofString "size") = some .cell := by rfl
  have hkT : c.scope.names.lookup (Str.ofString "t") = some .cell := by rfl
  dsimp only [lawF, List.drop_succ_cons, List.drop_zero]
  refine ASsP_cons (AS.p (AS_assign (AE_freeze (AE_list ?_))))
  refine AEs_cons (AE_tuple ?_)
  refine AEs_cons ?_; refine AE_local (by assumption) (mi 10 rfl) ?_; refine AEs_cons ?_; refine AE_binop ?_; refine AE_local (by assumption) (mi 3 rfl) ?_; refine AE_local (by assumption) (mi 8 rfl) ?_
  refine OpB_sub ?_
  refine AEs_nil ?_
  refine ⟨by simp, ?_⟩
  refine AEs_cons (AE_tuple ?_)
  refine AEs_cons ?_; refine AE_local (by assumption) (mi 11 rfl) ?_; refine AEs_cons ?_; refine AE_binop ?_; refine AE_local (by assumption) (mi 3 rfl) ?_; refine AE_local (by assumption) (mi 9 rfl) ?_
  refine OpB_sub ?_
  refine AEs_nil ?_
  refine ⟨by simp, ?_⟩
  refine AEs_cons (AE_tuple ?_)
  refine AEs_cons ?_; refine AE_binop ?_; refine AE_local (by assumption) (mi 10 rfl) ?_; refine AE_local (by assumption) (mi 11 rfl) ?_
  refine OpB_add ?_
  refine AEs_cons ?_; refine AE_binop ?_; refine AE_binop ?_; refine AE_local (by assumption) (mi 8 rfl) ?_; refine AE_local (by assumption) (mi 9 rfl) ?_
  refine OpB_add ?_
  refine AE_local (by assumption) (mi 3 rfl) ?_
  refine OpB_sub ?_
  refine AEs_nil ?_
  refine ⟨by simp, ?_⟩
  refine AEs_nil ?_
  refine ⟨by simp, fun q => ⟨q, _, _, rfl, rfl, ?_⟩⟩
  (with_reducible refine St1_local (by assumption) (by with_reducible repeat first | exact SetL.head | apply SetL.tail) ?_)
  refine ASsP_cons (AS.p (AS_assign (AE_callf 300 G (fun w => by kernel_rfl) ?_)))
  refine AE_global (by assumption) (fun w => by rfl) (by rfl) (fun B N => .ref _) ⟨rfl, ?_⟩
  refine AEs_cons ?_; refine AE_local (by assumption) (mi 14 rfl) ?_; refine AEs_nil ?_
  refine OpCall_of G (counts_spec (k := k + 9) (ps := psOf marks first last near far) (by simp) F.pos F.ne fun M hM1 hM2 => ?_)
  rw [F.cts M hM1 hM2]
  have hcn : (cnt.map fun x => ((x : Nat) : Int)).map AV.int = nats cnt := by rw [List.map_map]; rfl
  rw [hcn]
  (with_reducible refine St1_local (by assumption) (by with_reducible repeat first | exact SetL.head | apply SetL.tail) ?_)
  refine ASsP_cons (AS.p (AS_assign (AE_callf 244 G (fun w => by kernel_rfl) ?_)))
  refine AE_global (by assumption) (fun w => by rfl) (by rfl) (fun B N => .ref _) ⟨rfl, ?_⟩
  refine AEs_cons ?_; refine AE_binop ?_; refine AE_binop ?_; refine AE_local (by assumption) (mi 13 rfl) ?_; refine AE_binop ?_; refine AE_str ?_; refine AE_local (by assumption) (mi 6 rfl) ?_
  have hll := F.ll
  have e2 : ("x\t " : Str).length = 3 := rfl
  have e1 : ("\t" : Str).length = 1 := rfl
  have e0 : (" " : Str).length = 1 := rfl
  refine OpB_rep (mulOk_sp (by omega) (by omega)) (OpB_cat (by rw [mul_sp_len, sizeLine_eq]; omega) ?_)
  refine AE_str ?_
  refine OpB_cat (by rw [slen_app, mul_sp_len, e2, sizeLine_eq]; omega) ?_
  refine AEs_nil ?_
  refine OpCall_newinst (k := k + 9) (C := 244) (fI := 199) G (fun w => by kernel_rfl) (fun w => by kernel_rfl) (fun w => by kernel_rfl) fun rd => wsinit_spec (k := k + 8) (raw := rawOf leadS spare) (by unfold rawOf; rw [slen_app, slen_app, mul_sp_len, e2]; omega) ⟨rfl, ?_⟩
  rw [F.wc]
  generalize hwn : (wsOf (rawOf leadS spare)).n = wn
  generalize hwt : (wsOf (rawOf leadS spare)).nt = wt
  generalize hwb : (wsOf (rawOf leadS spare)).b = wb
  have hn1 : (wn : Int) = size + spare := hwn ▸ F.wn
  have hn2 : (wt : Int) = marks := hwt ▸ F.wt
  have hn3 : (wb : Int) = spare := hwb ▸ F.wb
  (with_reducible refine St1_local (by assumption) (by with_reducible repeat first | exact SetL.head | apply SetL.tail) ?_)
  refine ASsP_cons (AS.p (AS_if (AB_compare ?_)))
  refine AE_tuple ?_
  refine AEs_cons ?_
  (refine AE_attr (by assumption) ?_; refine AE_local (by assumption) (mi 16 rfl) ?_; refine ⟨_, 244, _, _, rfl, (.head _), by simp [fget, WsF]; rfl, rfl, fun w => by kernel_rfl, fun w => by kernel_rfl, fun w => by kernel_rfl, ?_⟩)
  refine AEs_cons ?_
  (refine AE_attr (by assumption) ?_; refine AE_local (by assumption) (mi 16 rfl) ?_; refine ⟨_, 244, _, _, rfl, (.head _), by simp [fget, WsF]; rfl, rfl, fun w => by kernel_rfl, fun w => by kernel_rfl, fun w => by kernel_rfl, ?_⟩)
  refine AEs_cons ?_
  (refine AE_attr (by assumption) ?_; refine AE_local (by assumption) (mi 16 rfl) ?_; refine ⟨_, 244, _, _, rfl, (.head _), by simp [fget, WsF]; rfl, rfl, fun w => by kernel_rfl, fun w => by kernel_rfl, fun w => by kernel_rfl, ?_⟩)
  refine AEs_nil ?_
  refine ⟨by simp, ?_⟩
  refine AE_tuple ?_
  refine AEs_cons ?_; refine AE_binop ?_; (refine AE_cell (by assumption) (by assumption) (mi 5 rfl) (by rfl) ?_); refine AE_local (by assumption) (mi 6 rfl) ?_
  refine OpB_add ?_
  refine AEs_cons ?_; refine AE_local (by assumption) (mi 3 rfl) ?_
  refine AEs_cons (AE_tuple ?_)
  refine AEs_cons ?_; refine AE_local (by assumption) (mi 15 rfl) ?_; refine AEs_cons ?_; refine AE_local (by assumption) (mi 6 rfl) ?_; refine AEs_nil ?_
  refine ⟨by simp, ?_⟩
  refine AEs_nil ?_
  refine ⟨by simp, ?_⟩
  rw [← hn1]
  have hx : (AV.int spare) = .int wb := by rw [hn3]
  have hx2 : (AV.int marks) = .int wt := by rw [hn2]
  rw [hx, hx2]
  refine OpC_ne3 G ⟨_, rfl, fun hb => absurd hb (by decide), fun _ => ASs_nil ?_⟩
  rw [← hx, ← hx2]
  exact hcont rd wn wt wb hn2 hn3
end
section
theorem longest_eq (cnt : List Nat) (b : Nat) : (if (b : Int) > ((nats cnt).length : Int) - 1 then (b : Int) else ((nats cnt).length : Int) - 1) = longest cnt b := by
  have : (nats cnt).length = cnt.length := by simp [nats]
  rw [this]; rfl
set_option maxHeartbeats 16000000 in
theorem lawB2 {k : Nat} {w : World} {os : OsState} {base : Heap} {outer : List Env} {A₀ A : Around} {h₀ : Heap} {L : Addr} {X Y : Led} {H : Own} {Q : SP} {n : Nat} {size step first last near far : Int} {leadS : Str} {cnt : List Nat} {wn wt wb : Nat} {rd : Addr} {script drawn plain head sign places gaps : Option AV} :
    let c : Cx := lawCx w os base outer A₀ A h₀ L X Y
    c.Good (k + 10) → 5 ≤ size → size ≤ 8 → 2 ≤ wt → wt ≤ 8 → wb < 3 → BFacts size wt first last near far wb leadS cnt →
    (∀ tv, ASsP n c c.env (lawF.body.drop 22)
        (Lc script drawn plain (some (.int wt)) head sign (some (.int wb)) places (some (.int first)) (some (.int last)) (some (.int near)) (some (.int far)) gaps (some (.str leadS)) (some (.lst (prs (psOf wt first last near far)))) (some (.tup (nats cnt))) (some (.ref rd)) none none none none none none none none none none none) ((rd, .inst 244 (WsF (rawOf leadS wb) wn wt cnt wb)) :: Hc L none none tv (some (.int step)) (some (.int size)) H) Q) →
    ASsP n c c.env (lawF.body.drop 20)
      (Lc script drawn plain (some (.int wt)) head sign (some (.int wb)) places (some (.int first)) (some (.int last)) (some (.int near)) (some (.int far)) gaps (some (.str leadS)) (some (.lst (prs (psOf wt first last near far)))) (some (.tup (nats cnt))) (some (.ref rd)) none none none none none none none none none none none) ((rd, .inst 244 (WsF (rawOf leadS wb) wn wt cnt wb)) :: Hc L none none none (some (.int step)) (some (.int size)) H) Q := by
  intro c G hsz1 hsz2 hmk1 hmk2 hsp2 F hcont
  have hcS : c.cells.lookup (Str.ofString "size") = some (L + 1) := by rfl
  have hcT : c.cells.lookup (Str.ofString "t") = some (L + 1 + 1 + 1) := by rfl
  have hkS : c.scope.names.lookup (Str.ofString "size") = some .cell := by rfl
  have hkT : c.scope.names.lookup (Str.ofString "t") = some .cell := by rfl
  have hc1 := F.c1
  have hc2 := F.c2
  have Find := F.ind
  have hnl : (nats cnt).length = cnt.length := by simp [nats]
  dsimp only [lawF, List.drop_succ_cons, List.drop_zero]
  refine ASsP_cons (AS.p (AS_if (AB_or (AB_compare ?_))))
  (refine AE_attr (by assumption) ?_; refine AE_local (by assumption) (mi 16 rfl) ?_; refine ⟨_, 244, _, _, rfl, (.head _), by simp [fget, WsF]; rfl, rfl, fun w => by kernel_rfl, fun w => by kernel_rfl, fun w => by kernel_rfl, ?_⟩)
  refine AE_compare ?_
  refine AE_callb "len" ?_
  with_reducible refine AE_builtin (by assumption) (fun _ => by with_unfolding_all rfl) (by with_unfolding_all rfl) (by decide) (by with_unfolding_all rfl) ?_
  refine ⟨rfl, ?_⟩
  refine AEs_cons ?_; refine AE_local (by assumption) (mi 15 rfl) ?_; refine AEs_nil ?_
  refine OpCall_len_tup (by omega) ?_
  refine AE_int ?_
  refine OpC_eq (OpC_isnot_bool ⟨_, rfl, fun _ => ?_, fun hb => ?_⟩)
  rotate_left
  · exfalso
    rw [hnl] at hb
    have : decide (cnt.length ≤ 1) = decide ((cnt.length : Int) = 1) := by
      by_cases e : cnt.length = 1
      · simp [e]
      · have : ¬ cnt.length ≤ 1 := by omega
        have e2 : ¬ (cnt.length : Int) = 1 := by omega
        simp [this, e2]
    rw [this] at hb
    simp at hb
  refine AB_or (AB_compare ?_)
  refine AE_methf0 206 G (fun w => by kernel_rfl) ?_
  refine AE_local (by assumption) (mi 16 rfl) ?_
  refine ⟨OpMeth_inst (name := "longest_run_of_spaces") G (.head _) (fun w => by kernel_rfl) (fun w => by kernel_rfl) (fun w => by kernel_rfl) (by simp [fget, WsF]), ?_⟩
  refine OpCall_of G (longest_spec (k := k + 9) (.head _) hc2 ?_)
  refine AE_callb "max" ?_
  with_reducible refine AE_builtin (by assumption) (fun _ => by with_unfolding_all rfl) (by with_unfolding_all rfl) (by decide) (by with_unfolding_all rfl) ?_
  refine ⟨rfl, ?_⟩
  refine AEs_cons ?_; refine AE_binop ?_
  refine AE_callb "len" ?_
  with_reducible refine AE_builtin (by assumption) (fun _ => by with_unfolding_all rfl) (by with_unfolding_all rfl) (by decide) (by with_unfolding_all rfl) ?_
  refine ⟨rfl, ?_⟩
  refine AEs_cons ?_; refine AE_local (by assumption) (mi 15 rfl) ?_; refine AEs_nil ?_
  refine OpCall_len_tup (by omega) ?_
  refine AE_int ?_
  refine OpB_sub ?_
  refine AEs_cons ?_; refine AE_local (by assumption) (mi 6 rfl) ?_; refine AEs_nil ?_
  refine OpCall_max2 G ?_
  rw [longest_eq]
  refine OpC_ne ⟨_, rfl, fun _ => AB_or_nil ⟨fun hh => absurd hh (by decide), fun _ => ASs_nil ?_⟩, fun hb => absurd hb (by simp)⟩
  refine ASsP_cut (fun l H1 => ∃ tv, l = Lc script drawn plain (some (.int wt)) head sign (some (.int wb)) places (some (.int first)) (some (.int last)) (some (.int near)) (some (.int far)) gaps (some (.str leadS)) (some (.lst (prs (psOf wt first last near far)))) (some (.tup (nats cnt))) (some (.ref rd)) none none none none none none none none none none none ∧
      H1 = (rd, .inst 244 (WsF (rawOf leadS wb) wn wt cnt wb)) :: Hc L none none tv (some (.int step)) (some (.int size)) H) (AS.p (AS_for G (AE_callt "range" ?_))) ?_
  · with_reducible refine AE_builtin (by assumption) (fun _ => by with_unfolding_all rfl) (by with_unfolding_all rfl) (by decide) (by with_unfolding_all rfl) ?_
    refine ⟨rfl, ?_⟩
    refine AEs_cons ?_; refine AE_int ?_; refine AEs_cons ?_; refine AE_binop ?_
    (refine AE_cell (by assumption) (by assumption) (mi 5 rfl) (by rfl) ?_)
    refine AE_int ?_
    refine OpB_add ?_
    refine AEs_nil ?_
    refine OpCall_range2 ⟨_, It_up (by decide) (by decide) (by omega) (by omega), fun i l H1 => ∃ tv, l = Lc script drawn plain (some (.int wt)) head sign (some (.int wb)) places (some (.int first)) (some (.int last)) (some (.int near)) (some (.int far)) gaps (some (.str leadS)) (some (.lst (prs (psOf wt first last near far)))) (some (.tup (nats cnt))) (some (.ref rd)) none none none none none none none none none none none ∧
      H1 = (rd, .inst 244 (WsF (rawOf leadS wb) wn wt cnt wb)) :: Hc L none none tv (some (.int step)) (some (.int size)) H, ⟨none, rfl, rfl⟩, ?_, ?_⟩
    · rintro X Y i x l H1 hx ⟨tv, rfl, rfl⟩
      have G' := G.wX (X := X) (Y := Y)
      have hin : i < (size + 2 - 1).toNat := by
        have := (List.getElem?_eq_some_iff.mp hx).1
        simpa using this
      obtain ⟨t, rfl, ht1, ht2⟩ : ∃ t : Nat, x = .int t ∧ 1 ≤ t ∧ (t : Int) ≤ size + 1 := by
        rw [List.getElem?_map, List.getElem?_range hin] at hx
        refine ⟨1 + i, ?_, by omega, by omega⟩
        have := (Option.some.inj hx).symm
        rw [this]; congr 1
      have hF := Find t ht1 ht2
      refine As1_name (St1_cell G' hcT hkT (by with_reducible repeat first | exact At.head | apply At.tail) ?_)
      refine ASs_cons (AS_if (AB_compare ?_))
      refine AE_methf 213 G' (fun w => by kernel_rfl) ?_
      refine AE_local (by assumption) (mi 16 rfl) ?_
      refine ⟨OpMeth_inst (name := "indent_level") G' (.head _) (fun w => by kernel_rfl) (fun w => by kernel_rfl) (fun w => by kernel_rfl) (by simp [fget, WsF]), ?_⟩
      refine AEs_cons ?_
      refine AE_cell G' hcT (mi 3 rfl) hkT ?_
      refine AEs_nil ?_
      refine OpCall_of G' (indent_spec (k := k + 9) (t := t) (.head _) hc2 ht1 (by omega) ?_)
      rw [hF]
      refine AE_binop ?_; refine AE_local (by assumption) (mi 6 rfl) ?_; refine AE_binop ?_
      refine AE_cell G' hcT (mi 3 rfl) hkT ?_
      refine AE_callb "sum" ?_
      with_reducible refine AE_builtin (by assumption) (fun _ => by with_unfolding_all rfl) (by with_unfolding_all rfl) (by decide) (by with_unfolding_all rfl) ?_
      refine ⟨rfl, ?_⟩
      refine AEs_cons (AE_listcomp (cl := [(Str.ofString "t", L + 1 + 1 + 1)]) G' ["gap", "many"] (closure_of (by rfl)) ?_)
      refine AE_local (by assumption) (mi 14 rfl) ?_
      refine ⟨prs (psOf wt first last near far), fun i => ((psOf wt first last near far)[i]?).bind fun (p : Int × Int) => some (.int (p.2 * (p.1 + (t : Int) - 1).fdiv (t : Int))), It_lst, by simp, ?_, ?_⟩
      · intro X Y C D l i x ys hx hl
        have G2 := G'.wX (X := X) (Y := Y)
        obtain ⟨u, v, rfl⟩ := names2 hl
        obtain ⟨p, hpi, rfl⟩ : ∃ p, (psOf wt first last near far)[i]? = some p ∧ x = .tup [.int p.1, .int p.2] := by
          simp only [prs, List.getElem?_map] at hx
          cases e : (psOf wt first last near far)[i]? with
          | none => rw [e] at hx; cases hx
          | some p => rw [e] at hx; exact ⟨p, rfl, (Option.some.inj hx).symm⟩
        have hsm := F.sm p (List.mem_of_getElem? hpi)
        refine As1_tup2 G2 ?_
        refine St1_ns rfl (by first | rfl | with_unfolding_all rfl) (by first | rfl | with_unfolding_all rfl) At.head SetL.head ?_
        refine St1_ns rfl (by first | rfl | with_unfolding_all rfl) (by first | rfl | with_unfolding_all rfl) At.head (SetL.tail SetL.head) ?_
        refine ⟨rfl, _, rfl, rfl, ATs_nil ⟨rfl, fun _ => ?_, fun hh => by cases hh⟩⟩
        refine AE_binop ?_
        (refine AE_ns (by with_unfolding_all rfl) rfl (.head _) (mi 1 rfl) (by with_unfolding_all rfl) ?_)
        refine AE_binop ?_; refine AE_binop ?_; refine AE_binop ?_
        (refine AE_ns (by with_unfolding_all rfl) rfl (.head _) (.head _) (by with_unfolding_all rfl) ?_)
        refine AE_cellE (ca := L + 1 + 1 + 1) (by with_unfolding_all rfl) (by rfl) (mi 5 rfl) (by with_unfolding_all rfl) ?_
        refine OpB_add ?_
        refine AE_int ?_
        refine OpB_sub ?_
        refine AE_cellE (ca := L + 1 + 1 + 1) (by with_unfolding_all rfl) (by rfl) (mi 5 rfl) (by with_unfolding_all rfl) ?_
        refine OpB_div (by omega) (noPy (by omega)) ?_
        refine OpB_mul (mulSmall (by omega)) ⟨rfl, ?_⟩
        show ((psOf wt first last near far)[i]?).bind _ = _
        rw [hpi]; rfl
      · have e3 : ((List.range (prs (psOf wt first last near far)).length).filterMap fun i => ((psOf wt first last near far)[i]?).bind fun (p : Int × Int) => some (AV.int (p.2 * (p.1 + (t : Int) - 1).fdiv (t : Int)))) = ((psOf wt first last near far).map fun (p : Int × Int) => p.2 * (p.1 + (t : Int) - 1).fdiv (t : Int)).map AV.int := by
          have e4 : (prs (psOf wt first last near far)).length = (psOf wt first last near far).length := by simp [prs]
          rw [e4, filterMap_map (psOf wt first last near far) fun (p : Int × Int) => AV.int (p.2 * (p.1 + (t : Int) - 1).fdiv (t : Int)), List.map_map]; rfl
        rw [e3]
        refine AEs_nil ?_
        refine OpCall_sum_lst G' ?_
        refine OpB_mul (mulSmall (by omega)) (OpB_add ?_)
        refine OpC_ne ⟨_, rfl, fun hb => absurd hb (by simp), fun _ => ASs_nil (ASs_nil ⟨_, rfl, rfl⟩)⟩
    · rintro l H1 ⟨tv, rfl, rfl⟩
      exact ASs_nil ⟨rfl, tv, rfl, rfl⟩
  · rintro l H1 ⟨tv, rfl, rfl⟩
    exact hcont tv
end
section
set_option maxHeartbeats 16000000 in
theorem lawB3 {k : Nat} {w : World} {os : OsState} {base : Heap} {outer : List Env} {A₀ A : Around} {h₀ : Heap} {L : Addr} {X Y : Led} {H : Own} {Q : SP} {n : Nat} {size step first last near far : Int} {leadS : Str} {cnt : List Nat} {wn wt wb : Nat} {rd : Addr} {tv script drawn plain head sign places gaps : Option AV} :
    let c : Cx := lawCx w os base outer A₀ A h₀ L X Y
    c.Good (k + 10) → wb < 3 → BFacts size wt first last near far wb leadS cnt →
    (∀ ab, ASsP n c c.env (lawF.body.drop 24)
        (Lc script drawn plain (some (.int wt)) head sign (some (.int wb)) places (some (.int first)) (some (.int last)) (some (.int near)) (some (.int far)) gaps (some (.str leadS)) (some (.lst (prs (psOf wt first last near far)))) (some (.tup (nats cnt))) (some (.ref rd)) ab  none none none none none none none none none none) (Hc L none none tv (some (.int step)) (some (.int size)) H) Q) →
    ASsP n c c.env (lawF.body.drop 22)
      (Lc script drawn plain (some (.int wt)) head sign (some (.int wb)) places (some (.int first)) (some (.int last)) (some (.int near)) (some (.int far)) gaps (some (.str leadS)) (some (.lst (prs (psOf wt first last near far)))) (some (.tup (nats cnt))) (some (.ref rd)) none  none none none none none none none none none none) ((rd, .inst 244 (WsF (rawOf leadS wb) wn wt cnt wb)) :: Hc L none none tv (some (.int step)) (some (.int size)) H) Q := by
  intro c G hsp2 F hcont
  have Fac := F.ac
  have Fab := F.ab
  have Fan := F.an
  have Fl0 := F.ll
  have Fl1 := F.l1
  have Fl2 := F.l2
  have e1 : ("\t" : Str).length = 1 := rfl
  have e0 : (" " : Str).length = 1 := rfl
  have hal : (aboutOf leadS wb).length ≤ 110 := by
    unfold aboutOf; rw [slen_app, slen_app, mul_sp_len, e1]; omega
  dsimp only [lawF, List.drop_succ_cons, List.drop_zero]
  refine ASsP_cons (AS.p (AS_assign ?_))
  refine AE_binop ?_; refine AE_binop ?_; refine AE_subg ?_; refine AE_subg ?_; refine AE_local (by assumption) (mi 13 rfl) ?_
  refine AE_slice (AEO_none (AEO_some (AE_unary ?_)))
  refine AE_int ?_
  refine OpU_neg ⟨_, rfl, AEO_none ⟨NoPy_str, OpG_strslc (by rfl) (by rw [sizeLine_eq]; omega) ?_⟩⟩
  refine AE_slice (AEO_none (AEO_none (AEO_some (AE_unary ?_))))
  refine AE_int ?_
  refine OpU_neg ⟨_, rfl, ⟨NoPy_str, OpG_strslc (by rfl) (by rw [sizeLine_eq]; omega) ?_⟩⟩
  refine AE_str ?_
  refine OpB_cat (by rw [sizeLine_eq, e1]; omega) ?_
  refine AE_binop ?_; refine AE_str ?_; refine AE_local (by assumption) (mi 6 rfl) ?_
  refine OpB_rep (mulOk_sp (by omega) (by omega)) (OpB_cat (by rw [slen_app, mul_sp_len, sizeLine_eq, e1]; omega) ?_)
  show St1 _ _ _ (.str (aboutOf leadS wb)) _ _ _
  generalize aboutOf leadS wb = ab at Fac Fab Fan hal ⊢
  (with_reducible refine St1_local (by assumption) (by with_reducible repeat first | exact SetL.head | apply SetL.tail) ?_)
  refine ASsP_cons (AS.p (AS_if (AB_or (AB_compare ?_))))
  refine AE_methf 220 G (fun w => by kernel_rfl) ?_
  refine AE_local (by assumption) (mi 16 rfl) ?_
  refine ⟨OpMeth_inst (name := "equal") G (.head _) (fun w => by kernel_rfl) (fun w => by kernel_rfl) (fun w => by kernel_rfl) (by simp [fget, WsF]), ?_⟩
  refine AEs_cons (AE_callf 244 G (fun w => by kernel_rfl) ?_)
  refine AE_global (by assumption) (fun w => by rfl) (by rfl) (fun B N => .ref _) ⟨rfl, ?_⟩
  refine AEs_cons ?_; refine AE_local (by assumption) (mi 17 rfl) ?_; refine AEs_nil ?_
  refine OpCall_newinst (k := k + 9) (C := 244) (fI := 199) G (fun w => by kernel_rfl) (fun w => by kernel_rfl) (fun w => by kernel_rfl) fun r2 => wsinit_spec (k := k + 8) (raw := ab) (by omega) ⟨rfl, ?_⟩
  refine AEs_nil ?_
  refine OpCall_of G (equal_spec (k := k + 9) (mi 1 rfl) (.head _) ?_)
  refine AE_bool ?_
  have hb1 : wb = (wsOf ab).b := by omega
  refine OpC_isnot_bool ⟨_, rfl, fun _ => ?_, fun hb => ?_⟩
  rotate_left
  · exfalso
    rw [Fac, ← hb1] at hb
    simp at hb
  refine AB_or (AB_compare ?_)
  refine AE_methf 220 G (fun w => by kernel_rfl) ?_
  refine AE_local (by assumption) (mi 16 rfl) ?_
  refine ⟨OpMeth_inst (name := "equal") G (mi 1 rfl) (fun w => by kernel_rfl) (fun w => by kernel_rfl) (fun w => by kernel_rfl) (by simp [fget, WsF]), ?_⟩
  refine AEs_cons (AE_callf 244 G (fun w => by kernel_rfl) ?_)
  refine AE_global (by assumption) (fun w => by rfl) (by rfl) (fun B N => .ref _) ⟨rfl, ?_⟩
  refine AEs_cons ?_; refine AE_binop ?_; refine AE_local (by assumption) (mi 17 rfl) ?_; refine AE_str ?_
  refine OpB_cat (by rw [sizeLine_eq, e0]; omega) ?_
  refine AEs_nil ?_
  refine OpCall_newinst (k := k + 9) (C := 244) (fI := 199) G (fun w => by kernel_rfl) (fun w => by kernel_rfl) (fun w => by kernel_rfl) fun r3 => wsinit_spec (k := k + 8) (raw := ab ++ " ") (by rw [slen_app, e0]; omega) ⟨rfl, ?_⟩
  refine AEs_nil ?_
  refine OpCall_of G (equal_spec (k := k + 9) (mi 2 rfl) (.head _) ?_)
  refine AE_bool ?_
  have hb2 : ¬ (cnt = (wsOf (ab ++ " ")).cnt ∧ wb = (wsOf (ab ++ " ")).b) := fun h => Fan ⟨h.1.symm, by omega⟩
  refine OpC_isnot_bool ⟨_, rfl, fun _ => AB_or_nil ⟨fun hh => absurd hh (by decide), fun _ => ASs_nil ?_⟩, fun hb => ?_⟩
  rotate_left
  · exfalso
    rw [decide_eq_false hb2] at hb
    simp at hb
  exact ASsP_weak (.cons _ (.cons _ (.cons _ (List.Sublist.refl _)))) (hcont _)
end
section
noncomputable def mkS (l : List Nat) : Str := ⟨l.toArray⟩
noncomputable abbrev cs (x : Str) : List Nat := x.cps.toList
theorem cs_mk (l : List Nat) : cs (mkS l) = l := rfl
theorem mk_cs (x : Str) : mkS (cs x) = x := by cases x; rfl
theorem cs_inj {x y : Str} (h : cs x = cs y) : x = y := by rw [← mk_cs x, ← mk_cs y, h]
theorem cs_app (x y : Str) : cs (x ++ y) = cs x ++ cs y := by
  show (x.cps ++ y.cps).toList = _
  simp
theorem mk_app (x y : List Nat) : mkS (x ++ y) = mkS x ++ mkS y := cs_inj (by rw [cs_app]; rfl)
theorem cs_len (x : Str) : (cs x).length = x.length := by show x.cps.toList.length = x.cps.size; simp
theorem mk_len (l : List Nat) : (mkS l).length = l.length := by rw [← cs_len]; rfl
noncomputable def joinW (z : List Nat) : List (List Nat) → List Nat
  | [] => []
  | [x] => x
  | x :: y :: r => x ++ z ++ joinW z (y :: r)
theorem cs_join (z : Str) : ∀ ps : List Str, cs (Str.join z ps) = joinW (cs z) (ps.map cs)
  | [] => rfl
  | [x] => rfl
  | x :: y :: r => by
    show cs (x ++ z ++ Str.join z (y :: r)) = _
    rw [cs_app, cs_app, cs_join z (y :: r)]; rfl
noncomputable def spl (c : Nat) : List Nat → List (List Nat)
  | [] => [[]]
  | a :: r => if a = c then [] :: spl c r else match spl c r with
    | x :: t => (a :: x) :: t
    | [] => [[a]]
theorem spl_cons (c a : Nat) (r : List Nat) : spl c (a :: r) = if a = c then [] :: spl c r else match spl c r with
    | x :: t => (a :: x) :: t
    | [] => [[a]] := rfl
theorem spl_ne (c : Nat) (l : List Nat) : spl c l ≠ [] := by
  cases l with
  | nil => simp [spl]
  | cons a r =>
    rw [spl_cons]
    split
    · simp
    · split <;> simp
theorem join_cons0 (z : List Nat) {t : List (List Nat)} (h : t ≠ []) : joinW z ([] :: t) = z ++ joinW z t := by
  cases t with
  | nil => exact absurd rfl h
  | cons y r => rfl
theorem join_consA (z : List Nat) (a : Nat) (x : List Nat) (t : List (List Nat)) : joinW z ((a :: x) :: t) = a :: joinW z (x :: t) := by
  cases t with
  | nil => rfl
  | cons y r => rfl
theorem join_spl (z : List Nat) (c : Nat) (l : List Nat) : joinW z (spl c l) = l.flatMap fun a => if a = c then z else [a] := by
  induction l with
  | nil => rfl
  | cons a r ih =>
    rw [List.flatMap_cons, ← ih]
    have hne := spl_ne c r
    rw [spl_cons]
    by_cases h : a = c
    · rw [if_pos h, if_pos h, join_cons0 z hne]
    · rw [if_neg h, if_neg h]
      cases e : spl c r with
      | nil => exact absurd e hne
      | cons x t => rw [join_consA]; rfl
theorem spl_none {c : Nat} {x : List Nat} (hx : c ∉ x) : spl c x = [x] := by
  induction x with
  | nil => rfl
  | cons a r ih =>
    have h1 : a ≠ c := fun e => hx (e ▸ .head _)
    rw [spl_cons, if_neg h1, ih fun h => hx (.tail _ h)]
theorem spl_at {c : Nat} {x w : List Nat} (hx : c ∉ x) : spl c (x ++ c :: w) = x :: spl c w := by
  induction x with
  | nil => rw [List.nil_append, spl_cons, if_pos rfl]
  | cons a r ih =>
    have h1 : a ≠ c := fun e => hx (e ▸ .head _)
    rw [List.cons_append, spl_cons, if_neg h1, ih fun h => hx (.tail _ h)]
theorem spl_join (c : Nat) : ∀ (ps : List (List Nat)), ps ≠ [] → (∀ p ∈ ps, c ∉ p) → spl c (joinW [c] ps) = ps
  | [], h, _ => absurd rfl h
  | [x], _, hf => spl_none (hf x (.head _))
  | x :: y :: r, _, hf => by
    have ih := spl_join c (y :: r) (by simp) fun p hp => hf p (.tail _ hp)
    show spl c (x ++ [c] ++ joinW [c] (y :: r)) = _
    rw [List.append_assoc, List.singleton_append, spl_at (hf x (.head _)), ih]
theorem split_ne (x : Str) (c : Nat) : Txt.split x ⟨#[c]⟩ ≠ [] := fun e => by
  have h := StrLaws.join_split x ⟨#[c]⟩
  have h2 : Txt.split x ⟨#[c]⟩ ≠ [] := by
    unfold Txt.split
    split
    · simp
    · split
      · simp
      · unfold Builtin.Str.partsBetween
        intro h
        have := congrArg List.length h
        simp at this
  exact h2 e
theorem split_eq (x : Str) (c : Nat) : Txt.split x ⟨#[c]⟩ = (spl c (cs x)).map mkS := by
  have h1 := congrArg cs (StrLaws.join_split x ⟨#[c]⟩)
  rw [cs_join] at h1
  have h3 : (Txt.split x ⟨#[c]⟩).map cs ≠ [] := by
    intro e; exact split_ne x c (List.map_eq_nil_iff.mp e)
  have h2 := spl_join c ((Txt.split x ⟨#[c]⟩).map cs) h3 fun p hp => by
    obtain ⟨q, hq, rfl⟩ := List.mem_map.mp hp
    exact StrLaws.split_free x c q hq
  have e : cs (⟨#[c]⟩ : Str) = [c] := rfl
  rw [e] at h1
  rw [h1] at h2
  rw [h2, List.map_map]
  conv => lhs; rw [← List.map_id (Txt.split x ⟨#[c]⟩)]
  exact List.map_congr_left fun q _ => (mk_cs q).symm
theorem replace_eq (x z : Str) (c : Nat) : Txt.replace x ⟨#[c]⟩ z = mkS ((cs x).flatMap fun a => if a = c then cs z else [a]) := by
  refine cs_inj ?_
  rw [StrLaws.replace_one, cs_join, split_eq, List.map_map, cs_mk, ← join_spl]
  congr 1
  conv => rhs; rw [← List.map_id (spl c (cs x))]
  exact List.map_congr_left fun q _ => rfl
theorem flat_none {c : Nat} {z l : List Nat} (h : c ∉ l) : (l.flatMap fun a => if a = c then z else [a]) = l := by
  induction l with
  | nil => rfl
  | cons a r ih =>
    have h1 : a ≠ c := fun e => h (e ▸ .head _)
    rw [List.flatMap_cons, ih fun h' => h (.tail _ h'), if_neg h1]; rfl
end
section
theorem joinW_nil : ∀ ps : List (List Nat), joinW [] ps = ps.flatten
  | [] => rfl
  | [x] => by simp [joinW]
  | x :: y :: r => by rw [joinW, joinW_nil (y :: r)]; simp
theorem cs_join0 (ps : List Str) : cs (Str.join "" ps) = ps.flatMap cs := by
  rw [cs_join]
  show joinW [] _ = _
  rw [joinW_nil, List.flatMap_def]
theorem cs_pair (p : Str × Str) : cs (pairStr p) = cs p.1 ++ cs p.2 := by
  rw [cs_join0]; simp
theorem cs_acc (l : List (Str × Str)) : cs (accStr l) = l.flatMap fun p => cs p.1 ++ cs p.2 := by
  rw [cs_join0, List.flatMap_map]
  congr 1
  funext p
  exact cs_pair p
theorem acc_app (l r : List (Str × Str)) : accStr (l ++ r) = accStr l ++ accStr r := cs_inj (by rw [cs_app, cs_acc, cs_acc, cs_acc, List.flatMap_append])
noncomputable def lets (l : List Nat) : List (Str × Str) := l.map fun n => ("", mkS [n])
theorem acc_lets (l : List Nat) : accStr (lets l) = mkS l := cs_inj (by
  rw [cs_acc, cs_mk]
  unfold lets
  rw [List.flatMap_map]
  show (l.flatMap fun n => [] ++ [n]) = l
  simp)
theorem len_lets (l : List Nat) : accLen (lets l) = l.length := by rw [← accStr_len, acc_lets, mk_len]
theorem lets_app (l r : List Nat) : lets (l ++ r) = lets l ++ lets r := by simp [lets]
theorem rev_ind {α : Type} {P : List α → Prop} (h0 : P []) (h1 : ∀ l a, P l → P (l ++ [a])) (l : List α) : P l := by
  rw [← List.reverse_reverse l]
  induction l.reverse with
  | nil => exact h0
  | cons a r ih => rw [List.reverse_cons]; exact h1 _ _ ih
theorem downs_succ {m : Nat} (h : 1 ≤ m) : downs (m + 1) = m :: downs m := by
  obtain ⟨m, rfl⟩ : ∃ k, m = k + 1 := ⟨m - 1, by omega⟩
  unfold downs
  rw [show m + 1 + 1 - 1 = m + 1 from rfl, show m + 1 - 1 = m from rfl, List.range_succ_eq_map, List.map_cons, List.map_map]
  congr 1
  refine List.map_congr_left fun t ht => ?_
  show m + 1 - (t + 1) = m - t
  omega
theorem downs_some {p : Nat → Bool} : ∀ {n i : Nat}, 1 ≤ i → i < n → p i = true → (∀ j, i < j → j < n → p j = false) → (downs n).find? p = some i
  | 0, i, h1, h2, _, _ => absurd h2 (Nat.not_lt_zero _)
  | n + 1, i, h1, h2, hi, hj => by
    rw [downs_succ (by omega), List.find?_cons]
    by_cases e : i = n
    · subst e; rw [hi]
    · rw [hj n (by omega) (by omega)]
      exact downs_some h1 (by omega) hi fun j h h' => hj j h (by omega)
theorem downs_none {p : Nat → Bool} : ∀ {n : Nat}, (∀ j, 1 ≤ j → j < n → p j = false) → (downs n).find? p = none
  | 0, _ => rfl
  | 1, _ => rfl
  | n + 2, hj => by
    rw [downs_succ (by omega), List.find?_cons, hj (n + 1) (by omega) (by omega)]
    exact downs_none fun j h h' => hj j h (by omega)
theorem lastEq_one (a c : Nat) : lastEq (mkS [c]) (mkS [a]) = decide (a = c) := by
  have e : Txt.item (mkS [a]) (-1) = mkS [a] := rfl
  unfold lastEq
  rw [e]
  have h1 : (mkS [a]).length = 1 := rfl
  rw [h1]
  have h2 : (mkS [a] = mkS [c]) ↔ a = c := ⟨fun h => by have := congrArg cs h; rw [cs_mk, cs_mk] at this; simpa using this, fun h => by rw [h]⟩
  simp [h2]
theorem fstEq_empty (c : Str) : fstEq c "" = false := by
  unfold fstEq
  have : ("" : Str).length = 0 := rfl
  rw [this]; rfl
theorem hit_lets (c : Nat) (l : List Nat) (i : Nat) (h : i < l.length) : hit (mkS [c]) (lets l) i = decide (l[i - 1]? = some c) := by
  unfold hit lets
  have h1 : i - 1 < l.length := by omega
  rw [List.getElem?_map, List.getElem?_map, List.getElem?_eq_getElem h, List.getElem?_eq_getElem h1]
  show (Txt.isspace (mkS [c]) && fstEq (mkS [c]) "" || lastEq (mkS [c]) (mkS [l[i - 1]])) = _
  rw [fstEq_empty, lastEq_one]
  simp
theorem lets_len (l : List Nat) : (lets l).length = l.length := by simp [lets]
theorem inner_some {c : Nat} {cur q : List Nat} (hq : q ≠ []) (hc : c ∉ q.dropLast) (hcur : ∃ z, cur = z ++ [c]) : inner (lets (cur ++ q)) (mkS [c]) = some cur.length := by
  unfold inner
  rw [lets_len, List.length_append]
  obtain ⟨z, hz⟩ := hcur
  have hl : cur.length = z.length + 1 := by rw [hz]; simp
  have hq0 : 0 < q.length := List.length_pos_iff.mpr hq
  refine downs_some (by omega) (by omega) ?_ ?_
  · rw [hit_lets _ _ _ (by simp only [List.length_append]; omega), hl, hz]
    simp
  · intro j h1 h2
    rw [hit_lets _ _ _ (by simp only [List.length_append] at h2 ⊢; omega)]
    refine decide_eq_false fun e => hc ?_
    rw [List.getElem?_append_right (by omega)] at e
    rw [List.dropLast_eq_take]
    have : (q.take (q.length - 1))[j - 1 - cur.length]? = some c := by
      rw [List.getElem?_take_of_lt (by omega), e]
    exact List.mem_of_getElem? this
theorem inner_none {c : Nat} {q : List Nat} (hc : c ∉ q.dropLast) : inner (lets q) (mkS [c]) = none := by
  unfold inner
  rw [lets_len]
  refine downs_none fun j h1 h2 => ?_
  rw [hit_lets _ _ _ h2]
  refine decide_eq_false fun e => hc ?_
  rw [List.dropLast_eq_take]
  have : (q.take (q.length - 1))[j - 1]? = some c := by
    rw [List.getElem?_take_of_lt (by omega), e]
  exact List.mem_of_getElem? this
theorem sgn_lit : sgn "; " = [mkS [59], mkS [32]] := rfl
theorem split_two (l : List (Str × Str)) : split "; " l = match inner l (mkS [59]) with | some i => some i | none => inner l (mkS [32]) := by
  unfold split
  rw [sgn_lit]
  simp only [List.findSome?_cons, List.findSome?_nil]
  cases inner l (mkS [59]) <;> cases inner l (mkS [32]) <;> rfl
noncomputable def Mode (b W : Nat) (p : List Nat) : Prop := (b = 59 ∧ p.length ≤ W) ∨ (b = 32 ∧ 59 ∉ p)
noncomputable def Pure (b : Nat) (cur : List Nat) : Prop := b = 59 ∨ (b = 32 ∧ 59 ∉ cur)
theorem not_dl {c : Nat} {q : List Nat} (h : c ∉ q) : c ∉ q.dropLast := fun h' => h (List.dropLast_subset q h')
theorem split_cut {b W : Nat} {cur q : List Nat} (hm : Mode b W q) (hpu : Pure b cur) (hq : q ≠ []) (hc : b ∉ q.dropLast) (hcur : ∃ z, cur = z ++ [b]) : split "; " (lets (cur ++ q)) = some cur.length := by
  rw [split_two]
  rcases hm with ⟨rfl, _⟩ | ⟨rfl, hn⟩
  · rw [inner_some hq hc hcur]
  · have hn2 : 59 ∉ cur := by
      rcases hpu with h | h
      · exact absurd h (by decide)
      · exact h.2
    rw [inner_none (not_dl (by simp [hn, hn2])), inner_some hq hc hcur]
theorem split_keep {b W : Nat} {q : List Nat} (hm : Mode b W q) (hc : b ∉ q.dropLast) (hw : W < q.length) : split "; " (lets q) = none := by
  rw [split_two]
  rcases hm with ⟨rfl, h⟩ | ⟨rfl, hn⟩
  · omega
  · rw [inner_none (not_dl hn), inner_none hc]
theorem chunk_small {W : Nat} {cur : List Nat} {a : Nat} {lines : List Str} (h : cur.length + 1 ≤ W) : chunk W "; " ⟨0, lets cur, lines⟩ ("", mkS [a]) = ⟨0, lets (cur ++ [a]), lines⟩ := by
  unfold chunk
  have e : lets cur ++ [(("" : Str), mkS [a])] = lets (cur ++ [a]) := by rw [lets_app]; rfl
  dsimp only
  rw [e, len_lets, if_neg (by rw [List.length_append]; simp; omega)]
theorem chunk_keep {W : Nat} {cur : List Nat} {a : Nat} {lines : List Str} (h : split "; " (lets (cur ++ [a])) = none) : chunk W "; " ⟨0, lets cur, lines⟩ ("", mkS [a]) = ⟨0, lets (cur ++ [a]), lines⟩ := by
  unfold chunk
  have e : lets cur ++ [(("" : Str), mkS [a])] = lets (cur ++ [a]) := by rw [lets_app]; rfl
  dsimp only
  rw [e, h]
  split
  · rw [if_neg (by decide)]
  · rfl
theorem chunk_cut {W i : Nat} {cur : List Nat} {a : Nat} {lines : List Str} (hW : W < cur.length + 1) (h : split "; " (lets (cur ++ [a])) = some i) : chunk W "; " ⟨0, lets cur, lines⟩ ("", mkS [a]) = ⟨0, lets ((cur ++ [a]).drop i), lines ++ [mkS ((cur ++ [a]).take i)]⟩ := by
  unfold chunk
  have e : lets cur ++ [(("" : Str), mkS [a])] = lets (cur ++ [a]) := by rw [lets_app]; rfl
  dsimp only
  rw [e, h, len_lets, if_pos (by rw [List.length_append]; simp; omega)]
  dsimp only
  have e1 : (lets (cur ++ [a])).drop i = lets ((cur ++ [a]).drop i) := by simp [lets, List.map_drop]
  have e2 : (lets (cur ++ [a])).take i = lets ((cur ++ [a]).take i) := by simp [lets, List.map_take]
  rw [e1, e2, acc_lets]
theorem fed {b W : Nat} {cur p : List Nat} {lines : List Str} (hm : Mode b W p) (hpu : Pure b cur) (hc : b ∉ p.dropLast) (hcur : cur = [] ∨ ∃ z, cur = z ++ [b]) : ∀ q, q <+: p →
    (lets q).foldl (chunk W "; ") ⟨0, lets cur, lines⟩ = if q = [] ∨ cur = [] ∨ cur.length + q.length ≤ W then ⟨0, lets (cur ++ q), lines⟩ else ⟨0, lets q, lines ++ [mkS cur]⟩ := by
  refine rev_ind (fun _ => by simp [lets]) fun q a ih hp => ?_
  · 
    have hq : q <+: p := (List.prefix_append q [a]).trans hp
    have hmq : Mode b W (q ++ [a]) := by
      rcases hm with ⟨h1, h2⟩ | ⟨h1, h2⟩
      · exact .inl ⟨h1, Nat.le_trans hp.length_le h2⟩
      · exact .inr ⟨h1, fun h => h2 (hp.subset h)⟩
    have hdl : b ∉ (q ++ [a]).dropLast := by
      intro h
      refine hc ?_
      obtain ⟨t, ht⟩ := hp
      rw [List.dropLast_concat] at h
      rw [← ht]
      cases t with
      | nil => rw [List.append_nil, List.dropLast_concat]; exact h
      | cons x t =>
        rw [List.dropLast_append_cons]
        exact List.mem_append_left _ (List.mem_append_left _ h)
    have e0 : (lets (q ++ [a])).foldl (chunk W "; ") ⟨0, lets cur, lines⟩ = chunk W "; " ((lets q).foldl (chunk W "; ") ⟨0, lets cur, lines⟩) ("", mkS [a]) := by rw [lets_app, List.foldl_append]; rfl
    rw [e0, ih hq]
    by_cases h1 : q = [] ∨ cur = [] ∨ cur.length + q.length ≤ W
    · rw [if_pos h1]
      by_cases h2 : cur.length + (q ++ [a]).length ≤ W
      · rw [if_pos (.inr (.inr h2)), chunk_small (by rw [List.length_append] at h2 ⊢; simp at h2; omega), List.append_assoc]
      · by_cases h3 : cur = []
        · rw [if_pos (.inr (.inl h3))]
          subst h3
          rw [List.nil_append, List.nil_append, chunk_keep (split_keep hmq hdl (by simp at h2 ⊢; omega))]
        · rw [if_neg (by
            rintro (h | h | h)
            · simp at h
            · exact h3 h
            · exact h2 h)]
          have hcur2 := hcur.resolve_left h3
          have hs := split_cut hmq hpu (by simp) hdl hcur2
          rw [← List.append_assoc] at hs
          rw [chunk_cut (by rw [List.length_append] at h2 ⊢; simp at h2; omega) hs, List.append_assoc, List.drop_left, List.take_left]
    · rw [if_neg h1]
      have h1' : q ≠ [] ∧ cur ≠ [] ∧ ¬ cur.length + q.length ≤ W := by
        refine ⟨fun h => h1 (.inl h), fun h => h1 (.inr (.inl h)), fun h => h1 (.inr (.inr h))⟩
      rw [if_neg (by
        rintro (h | h | h)
        · simp at h
        · exact h1'.2.1 h
        · rw [List.length_append] at h; omega)]
      by_cases h2 : q.length + 1 ≤ W
      · rw [chunk_small h2]
      · rw [chunk_keep (split_keep hmq hdl (by rw [List.length_append]; simp; omega))]
theorem last_slice (z : List Nat) (b : Nat) : sslice (mkS (z ++ [b])) (some (-1)) none none = mkS [b] := by
  show StrLaws.sliceText (mkS (z ++ [b])) (some (-1)) none = _
  have hl : (mkS (z ++ [b])).length = z.length + 1 := by rw [mk_len]; simp
  rw [StrLaws.sliceText_from_neg (by decide) (by omega), hl]
  refine cs_inj ?_
  show ((z ++ [b]).drop _).take _ = [b]
  have e : ((-1 : Int) + ((z.length + 1 : Nat) : Int)).toNat = z.length := by omega
  rw [e, List.drop_left]
  have e2 : (((mkS (z ++ [b])).cps.toList.length : Int) - ((-1 : Int) + ((z.length + 1 : Nat) : Int))).toNat = 1 := by
    have : (mkS (z ++ [b])).cps.toList.length = z.length + 1 := by show (z ++ [b]).length = _; simp
    omega
  rw [e2]; rfl
theorem whole_snoc (z : List Nat) (a b : Nat) : wholeE (mkS [b]) (mkS (z ++ [a])) = decide (a = b) := by
  unfold wholeE
  rw [last_slice]
  have h2 : (mkS [a] = mkS [b]) ↔ a = b := ⟨fun h => by have := congrArg cs h; rw [cs_mk, cs_mk] at this; simpa using this, fun h => by rw [h]⟩
  simp [h2]
theorem whole_nil (b : Nat) : wholeE (mkS [b]) (mkS []) = false := by
  unfold wholeE
  refine decide_eq_false fun h => ?_
  have : cs (sslice (mkS []) (some (-1)) none none) = [] := rfl
  rw [h] at this
  exact absurd this (by rw [cs_mk]; simp)
theorem run_one {b W : Nat} {cur p : List Nat} {lines : List Str} (hm : Mode b W p) (hpu : Pure b cur) (hp : p ≠ []) (hc : b ∉ p.dropLast) (hcur : cur = [] ∨ ∃ z, cur = z ++ [b]) :
    ∃ cur2 lines2, (lets p).foldl (chunk W "; ") ⟨0, lets cur, lines⟩ = ⟨0, lets cur2, lines2⟩ ∧ rstep W (mkS [b]) ⟨lines, mkS cur, 0⟩ (mkS p) = ⟨lines2, mkS cur2, 0⟩ ∧ (cur2 = cur ++ p ∨ cur2 = p) := by
  rw [fed hm hpu hc hcur p (List.prefix_refl p)]
  have hlen : ((mkS cur ++ mkS p).length : Int) = cur.length + p.length := by rw [slen_app, mk_len, mk_len]; push_cast; rfl
  by_cases h : cur = [] ∨ cur.length + p.length ≤ W
  · rw [if_pos (.inr h)]
    refine ⟨_, _, rfl, ?_, .inl rfl⟩
    rw [rstep_eq2, mk_app]
    rintro ⟨h1, h2⟩
    dsimp only at h1 h2
    rw [hlen] at h1
    rcases h with rfl | h
    · rcases h2 with h2 | h2
      · rw [whole_nil] at h2; cases h2
      · omega
    · omega
  · have h' : cur ≠ [] ∧ ¬ cur.length + p.length ≤ W := ⟨fun e => h (.inl e), fun e => h (.inr e)⟩
    rw [if_neg (by rintro (e | e); exact hp e; exact h e)]
    refine ⟨_, _, rfl, ?_, .inr rfl⟩
    obtain ⟨z, rfl⟩ := hcur.resolve_left h'.1
    have hw : wholeE (mkS [b]) (mkS (z ++ [b])) = true := by rw [whole_snoc]; simp
    have hlt : (W : Int) < 0 + ((mkS (z ++ [b]) ++ mkS p).length : Int) := by rw [hlen]; have := h'.2; omega
    rw [rstep_eq1 (width := (W : Int)) (e := mkS [b]) (st := ⟨lines, mkS (z ++ [b]), 0⟩) (p := mkS p) hlt (Or.inl hw)]
    dsimp only
    rw [if_pos (Or.inl hw)]
theorem mode_pure {b W : Nat} {cur p : List Nat} (hm : Mode b W p) (hpu : Pure b cur) : Pure b (cur ++ p) ∧ Pure b p := by
  rcases hm with ⟨rfl, _⟩ | ⟨rfl, h⟩
  · exact ⟨.inl rfl, .inl rfl⟩
  · refine ⟨?_, .inr ⟨rfl, h⟩⟩
    rcases hpu with e | ⟨_, h2⟩
    · exact absurd e (by decide)
    · exact .inr ⟨rfl, by simp [h, h2]⟩
theorem run_all {b W : Nat} : ∀ (ps : List (List Nat)) (cur : List Nat) (lines : List Str), (∀ p ∈ ps, Mode b W p ∧ b ∉ p.dropLast ∧ ∃ z, p = z ++ [b]) → Pure b cur → (cur = [] ∨ ∃ z, cur = z ++ [b]) →
    ∃ cur2 lines2, (lets ps.flatten).foldl (chunk W "; ") ⟨0, lets cur, lines⟩ = ⟨0, lets cur2, lines2⟩ ∧ (ps.map mkS).foldl (rstep W (mkS [b])) ⟨lines, mkS cur, 0⟩ = ⟨lines2, mkS cur2, 0⟩ ∧ Pure b cur2 ∧ (cur2 = [] ∨ ∃ z, cur2 = z ++ [b])
  | [], cur, lines, _, hpu, hcur => ⟨cur, lines, rfl, rfl, hpu, hcur⟩
  | p :: ps, cur, lines, h, hpu, hcur => by
    obtain ⟨hm, hd, z, hz⟩ := h p (.head _)
    obtain ⟨cur1, lines1, e1, e2, e3⟩ := run_one (lines := lines) hm hpu (by rw [hz]; simp) hd hcur
    have hend : ∃ z, cur1 = z ++ [b] := by
      rcases e3 with rfl | rfl
      · exact ⟨cur ++ z, by rw [hz, List.append_assoc]⟩
      · exact ⟨z, hz⟩
    have hp2 : Pure b cur1 := by
      rcases e3 with rfl | rfl
      · exact (mode_pure hm hpu).1
      · exact (mode_pure hm hpu).2
    obtain ⟨cur2, lines2, f1, f2, f3, f4⟩ := run_all ps cur1 lines1 (fun q hq => h q (.tail _ hq)) hp2 (.inr hend)
    refine ⟨cur2, lines2, ?_, ?_, f3, f4⟩
    · rw [List.flatten_cons, lets_app, List.foldl_append, e1, f1]
    · rw [List.map_cons, List.foldl_cons, e2, f2]
theorem nl_last {z : List Nat} {a : Nat} {lines : List Str} (ha : Unicode.isSpace a = false) : nlLines 0 (lets (z ++ [a])) lines = lines ++ [mkS (z ++ [a])] := by
  have e : nlParts (lets (z ++ [a])) = lets (z ++ [a]) := by
    rw [lets_app]
    show nlParts (lets z ++ [(("" : Str), mkS [a])]) = lets z ++ [(("" : Str), mkS [a])]
    rw [nlParts_snoc, if_neg (by
      intro h
      have := congrArg (fun q : Str × Str => cs q.1) h
      exact absurd this (by show ¬ ([] : List Nat) = [32]; decide))]
  unfold nlLines
  rw [e, len_lets, if_pos (by rw [List.length_append]; simp only [List.length_cons]; omega)]
  have e2 : onlyws 0 (lets (z ++ [a])) = false := by
    unfold onlyws
    rw [len_lets, acc_lets]
    have h1 : ¬ (z ++ [a]).length = 0 := by simp
    have h2 : Txt.isspace (mkS (z ++ [a])) = false := by
      unfold Txt.isspace
      have : (mkS (z ++ [a])).cps.all Unicode.isSpace = false := by
        show (z ++ [a]).toArray.all Unicode.isSpace = false
        simp [ha]
      rw [this, Bool.and_false]
    rw [h2, decide_eq_false h1]; rfl
  rw [e2, acc_lets]
theorem fmt_rows {b W a : Nat} {ps : List (List Nat)} {p z : List Nat} (h : ∀ p ∈ ps, Mode b W p ∧ b ∉ p.dropLast ∧ ∃ z, p = z ++ [b]) (hb : b = 59 ∨ b = 32) (hm : Mode b W p) (hd : b ∉ p.dropLast) (hz : p = z ++ [a]) (ha : Unicode.isSpace a = false) :
    nlLines ((lets (ps ++ [p]).flatten).foldl (chunk W "; ") ⟨0, [], []⟩).ini ((lets (ps ++ [p]).flatten).foldl (chunk W "; ") ⟨0, [], []⟩).parts ((lets (ps ++ [p]).flatten).foldl (chunk W "; ") ⟨0, [], []⟩).lines = (rfold W (mkS [b]) ((ps ++ [p]).map mkS) 0).rows := by
  have hpu : Pure b [] := by
    rcases hb with rfl | rfl
    · exact .inl rfl
    · exact .inr ⟨rfl, by simp⟩
  obtain ⟨cur, lines, e1, e2, e3, e4⟩ := run_all ps [] [] h hpu (.inl rfl)
  obtain ⟨cur2, lines2, f1, f2, f3⟩ := run_one (lines := lines) hm e3 (by rw [hz]; simp) hd e4
  have g1 : (lets (ps ++ [p]).flatten).foldl (chunk W "; ") ⟨0, [], []⟩ = ⟨0, lets cur2, lines2⟩ := by
    rw [List.flatten_append, lets_app, List.foldl_append]
    have : (lets ps.flatten).foldl (chunk W "; ") ⟨0, [], []⟩ = ⟨0, lets cur, lines⟩ := e1
    rw [this]
    simpa using f1
  have g2 : rfold W (mkS [b]) ((ps ++ [p]).map mkS) 0 = ⟨lines2, mkS cur2, 0⟩ := by
    unfold rfold
    rw [List.map_append, List.foldl_append]
    have : (ps.map mkS).foldl (rstep W (mkS [b])) ⟨[], "", 0⟩ = ⟨lines, mkS cur, 0⟩ := e2
    rw [this]
    simpa using f2
  rw [g1, g2]
  have hend : ∃ z, cur2 = z ++ [a] := by
    rcases f3 with rfl | rfl
    · exact ⟨cur ++ z, by rw [hz, List.append_assoc]⟩
    · exact ⟨z, hz⟩
  obtain ⟨z2, rfl⟩ := hend
  exact nl_last ha
end
section
theorem mk1_inj {a b : Nat} : (mkS [a] = mkS [b]) ↔ a = b := ⟨fun h => by have := congrArg cs h; rw [cs_mk, cs_mk] at this; simpa using this, fun h => by rw [h]⟩
theorem item_first (a : Nat) (l : List Nat) : Txt.item (mkS (a :: l)) 0 = mkS [a] := by
  unfold Txt.item Txt.charAt
  have e : seqIndex? 0 (mkS (a :: l)).length = some 0 := by unfold seqIndex?; rw [mk_len]; simp
  rw [e]
  rfl
theorem item_last (a : Nat) (z : List Nat) : Txt.item (mkS (z ++ [a])) (-1) = mkS [a] := by
  unfold Txt.item Txt.charAt
  have e : seqIndex? (-1) (mkS (z ++ [a])).length = some z.length := by unfold seqIndex?; rw [mk_len]; simp; omega
  rw [e]
  show mkS [((mkS (z ++ [a])).cps[z.length]?).getD 0] = _
  have : (mkS (z ++ [a])).cps[z.length]? = some a := by
    show (z ++ [a]).toArray[z.length]? = _
    simp
  rw [this]; rfl
theorem lastEq_snoc (c a : Nat) (z : List Nat) : lastEq (mkS [c]) (mkS (z ++ [a])) = decide (a = c) := by
  unfold lastEq
  rw [item_last]
  have h1 : ¬ (mkS (z ++ [a])).length = 0 := by rw [mk_len]; simp
  simp [h1, mk1_inj]
theorem lastEq_empty (c : Nat) : lastEq (mkS [c]) "" = false := by
  unfold lastEq
  have : ("" : Str).length = 0 := rfl
  rw [this]; rfl
noncomputable abbrev nul : Str × Str := ("", "")
theorem hit_at {ch : Str} {parts : List (Str × Str)} {i : Nat} {p q : Str × Str} (h1 : parts[i]? = some p) (h2 : parts[i - 1]? = some q) : hit ch parts i = ((Txt.isspace ch && fstEq ch p.1) || lastEq ch q.2) := by
  unfold hit; rw [h1, h2]
theorem sp59 : Txt.isspace (mkS [59]) = false := by decide +kernel
theorem sp32 : Txt.isspace (mkS [32]) = true := by decide +kernel
theorem split_s1 {Y : List (Str × Str)} {f w p : Str} {z : List Nat} : split "; " (Y ++ [(f, mkS (z ++ [59])), nul] ++ [(w, p)]) = some (Y.length + 1) := by
  rw [split_two]
  have : inner (Y ++ [(f, mkS (z ++ [59])), nul] ++ [(w, p)]) (mkS [59]) = some (Y.length + 1) := by
    unfold inner
    refine downs_some (by omega) (by simp) ?_ ?_
    · rw [hit_at (p := nul) (q := (f, mkS (z ++ [59]))) (by simp) (by simp)]
      dsimp only
      rw [lastEq_snoc]; simp
    · intro j h1 h2
      have hj : j = Y.length + 2 := by simp at h2; omega
      subst hj
      rw [hit_at (p := (w, p)) (q := nul) (by simp) (by simp)]
      dsimp only
      rw [lastEq_empty, sp59]; rfl
  rw [this]
theorem split_s2 {Y : List (Str × Str)} {f : Str} {z : List Nat} : split "; " (Y ++ [(f, mkS (z ++ [59]))] ++ [nul]) = some (Y.length + 1) := by
  rw [split_two]
  have : inner (Y ++ [(f, mkS (z ++ [59]))] ++ [nul]) (mkS [59]) = some (Y.length + 1) := by
    unfold inner
    refine downs_some (by omega) (by simp) ?_ ?_
    · rw [hit_at (p := nul) (q := (f, mkS (z ++ [59]))) (by simp) (by simp)]
      dsimp only
      rw [lastEq_snoc]; simp
    · intro j h1 h2
      simp at h2; omega
  rw [this]
noncomputable def Calm (c : Nat) (parts : List (Str × Str)) : Prop := (∀ q ∈ parts, lastEq (mkS [c]) q.2 = false) ∧ (c = 32 → ∀ q ∈ parts.drop 1, fstEq (mkS [c]) q.1 = false)
theorem calm_none {c : Nat} {parts : List (Str × Str)} (hc : c = 59 ∨ c = 32) (h : Calm c parts) : inner parts (mkS [c]) = none := by
  unfold inner
  refine downs_none fun j h1 h2 => ?_
  rw [hit_at (List.getElem?_eq_getElem h2) (List.getElem?_eq_getElem (by omega : j - 1 < parts.length))]
  rw [h.1 _ (List.getElem_mem _), Bool.or_false]
  rcases hc with rfl | rfl
  · rw [sp59]; rfl
  · rw [h.2 rfl parts[j] ?_, Bool.and_false]
    have : parts[j] = (parts.drop 1)[j - 1]'(by rw [List.length_drop]; omega) := by
      rw [List.getElem_drop]; congr 1; omega
    rw [this]
    exact List.getElem_mem _
theorem split_none {parts : List (Str × Str)} (h1 : Calm 59 parts) (h2 : Calm 32 parts) : split "; " parts = none := by
  rw [split_two, calm_none (.inl rfl) h1, calm_none (.inr rfl) h2]
theorem split_one (q : Str × Str) : split "; " [q] = none := by
  rw [split_two]
  rfl
theorem split_s3 {w p : Str} (hw : fstEq (mkS [32]) w = false) : split "; " [nul, (w, p)] = none := by
  rw [split_two]
  have e : ∀ c, lastEq (mkS [c]) "" = false := lastEq_empty
  have h1 : inner [nul, (w, p)] (mkS [59]) = none := by
    unfold inner
    refine downs_none fun j h1 h2 => ?_
    have hj : j = 1 := by simp at h2; omega
    subst hj
    rw [hit_at (p := (w, p)) (q := nul) rfl rfl]
    dsimp only
    rw [lastEq_empty, sp59]; rfl
  have h2 : inner [nul, (w, p)] (mkS [32]) = none := by
    unfold inner
    refine downs_none fun j h1 h2 => ?_
    have hj : j = 1 := by simp at h2; omega
    subst hj
    rw [hit_at (p := (w, p)) (q := nul) rfl rfl]
    dsimp only
    rw [lastEq_empty, hw]; simp
  rw [h1]; exact h2
theorem chunk_fit {W : Int} {st : FSt} {q : Str × Str} (h : st.ini + accLen (st.parts ++ [q]) ≤ W) : chunk W "; " st q = ⟨st.ini, st.parts ++ [q], st.lines⟩ := by
  unfold chunk
  rw [if_neg (by omega)]
theorem chunk_at {W : Int} {st : FSt} {q : Str × Str} {i : Nat} (h : W < st.ini + accLen (st.parts ++ [q])) (hs : split "; " (st.parts ++ [q]) = some i) : chunk W "; " st q = ⟨0, (st.parts ++ [q]).drop i, st.lines ++ [accStr ((st.parts ++ [q]).take i)]⟩ := by
  unfold chunk
  rw [if_pos h, hs]
theorem chunk_stay {W : Int} {st : FSt} {q : Str × Str} (hi : ¬ 0 < st.ini) (hs : split "; " (st.parts ++ [q]) = none) : chunk W "; " st q = ⟨st.ini, st.parts ++ [q], st.lines⟩ := by
  unfold chunk
  rw [hs]
  dsimp only
  rw [if_neg hi]
  split <;> rfl
theorem chunk_new {W : Int} {st : FSt} {q : Str × Str} (h : W < st.ini + accLen (st.parts ++ [q])) (hi : 0 < st.ini) (hs : split "; " (st.parts ++ [q]) = none) : chunk W "; " st q = ⟨0, [(if q.1.length = 0 then (" " : Str) else q.1, q.2)], nlLines st.ini st.parts st.lines⟩ := by
  unfold chunk
  rw [if_pos h, hs]
  dsimp only
  rw [if_pos hi]
end
section
theorem acc_nul (P : List (Str × Str)) : accStr (P ++ [nul]) = accStr P := cs_inj (by rw [acc_app, cs_app, cs_acc [nul]]; show _ ++ [] = _; simp)
theorem acc_one (f p : Str) : accStr [(f, p)] = f ++ p := cs_inj (by rw [cs_acc, cs_app]; simp)
theorem len_acc (P : List (Str × Str)) : accLen P = (accStr P).length := (accStr_len P).symm
theorem calm_snoc {c : Nat} {P : List (Str × Str)} {q : Str × Str} (h : Calm c P) (h1 : lastEq (mkS [c]) q.2 = false) (h2 : c = 32 → fstEq (mkS [c]) q.1 = false) : Calm c (P ++ [q]) := by
  refine ⟨fun x hx => ?_, fun hc x hx => ?_⟩
  · rcases List.mem_append.mp hx with hx | hx
    · exact h.1 x hx
    · obtain rfl := List.mem_singleton.mp hx; exact h1
  · cases P with
    | nil => simp at hx
    | cons y r =>
      simp only [List.cons_append, List.drop_succ_cons, List.drop_zero] at hx
      rcases List.mem_append.mp hx with hx | hx
      · exact h.2 hc x (by simpa using hx)
      · obtain rfl := List.mem_singleton.mp hx; exact h2 hc
theorem calm_one {c : Nat} {q : Str × Str} (h1 : lastEq (mkS [c]) q.2 = false) : Calm c [q] :=
  ⟨fun x hx => by obtain rfl := List.mem_singleton.mp hx; exact h1, fun _ x hx => by simp at hx⟩
noncomputable def Quiet2 (e : Nat) (P : List (Str × Str)) : Prop := e ≠ 59 → Calm 59 P ∧ Calm 32 P
noncomputable def Wh (e : Nat) (w : Str) : Prop := w = "\t " ∨ (w = "" ∧ e = 59)
theorem wh_fst {e : Nat} {w : Str} (h : Wh e w) : fstEq (mkS [32]) w = false := by
  rcases h with rfl | ⟨rfl, _⟩
  · decide +kernel
  · exact fstEq_empty _
inductive Rel (e : Nat) (W : Int) : FSt → RSt → Prop
  | start {h : Int} : 0 ≤ h → Rel e W ⟨h, [], []⟩ ⟨[], "", h⟩
  | opn {Y : List (Str × Str)} {f : Str} {z : List Nat} {h : Int} {done : List Str} {last : Str} : 0 ≤ h → accStr (Y ++ [(f, mkS (z ++ [e]))]) = last → Quiet2 e (Y ++ [(f, mkS (z ++ [e]))] ++ [nul]) → Rel e W ⟨h, Y ++ [(f, mkS (z ++ [e]))] ++ [nul], done⟩ ⟨done, last, h⟩
  | closed {done : List Str} {last : Str} {z : List Nat} : e = 59 → W < last.length → last = mkS (z ++ [59]) → Rel e W ⟨0, [nul], done ++ [last]⟩ ⟨done, last, 0⟩
theorem quiet_nul {e : Nat} {P : List (Str × Str)} (h : Quiet2 e P) : Quiet2 e (P ++ [nul]) := fun he => ⟨calm_snoc (h he).1 (lastEq_empty _) fun hc => absurd hc (by decide), calm_snoc (h he).2 (lastEq_empty _) fun _ => fstEq_empty _⟩
theorem acc_tail (Y : List (Str × Str)) (f : Str) (l : List Nat) : ∃ q, accStr (Y ++ [(f, mkS l)]) = mkS (q ++ l) := ⟨cs (accStr Y) ++ cs f, cs_inj (by rw [acc_app, cs_app, acc_one, cs_app, cs_mk, cs_mk, List.append_assoc])⟩
theorem second {e : Nat} {W h : Int} {Y : List (Str × Str)} {f last : Str} {z : List Nat} {done : List Str} (he : e = 59 ∨ e = 62) (h0 : 0 ≤ h) (hl : accStr (Y ++ [(f, mkS (z ++ [e]))]) = last) (hq : Quiet2 e (Y ++ [(f, mkS (z ++ [e]))])) (hf : h + last.length ≤ W ∨ h = 0) :
    Rel e W (chunk W "; " ⟨h, Y ++ [(f, mkS (z ++ [e]))], done⟩ nul) ⟨done, last, h⟩ := by
  have hlen : accLen (Y ++ [(f, mkS (z ++ [e]))] ++ [nul]) = last.length := by rw [len_acc, acc_nul, hl]
  by_cases hfit : h + last.length ≤ W
  · rw [chunk_fit (by dsimp only; rw [hlen]; exact hfit)]
    exact .opn h0 hl (quiet_nul hq)
  · have hz : h = 0 := hf.resolve_left hfit
    subst hz
    rcases he with rfl | rfl
    · rw [chunk_at (i := Y.length + 1) (by dsimp only; rw [hlen]; omega) split_s2]
      dsimp only
      have e1 : (Y ++ [(f, mkS (z ++ [59]))] ++ [nul]).drop (Y.length + 1) = [nul] := by
        rw [List.drop_append_of_le_length (by simp)]
        simp
      have e2 : (Y ++ [(f, mkS (z ++ [59]))] ++ [nul]).take (Y.length + 1) = Y ++ [(f, mkS (z ++ [59]))] := by
        rw [List.take_append_of_le_length (by simp)]
        exact List.take_of_length_le (by simp)
      rw [e1, e2, hl]
      obtain ⟨q, hq⟩ := acc_tail Y f (z ++ [59])
      exact .closed (z := q ++ z) rfl (by omega) (by rw [← hl, hq, List.append_assoc])
    · rw [chunk_stay (by dsimp only; omega) (by
        have := quiet_nul hq (by decide)
        exact split_none this.1 this.2)]
      exact .opn h0 hl (quiet_nul hq)
structure Pc (e : Nat) (p : Str) : Prop where
  tail : ∃ z, p = mkS (z ++ [e])
  first : ∀ a l, cs p = a :: l → a ≠ 9
theorem pc_quiet1 {e : Nat} {w : Str} {z : List Nat} (he : e = 59 ∨ e = 62) : Quiet2 e [(w, mkS (z ++ [e]))] := fun hn => by
  have he : e = 62 := he.resolve_left hn
  subst he
  exact ⟨calm_one (by rw [lastEq_snoc]; rfl), calm_one (by rw [lastEq_snoc]; rfl)⟩
theorem pc_quiet {e : Nat} {w : Str} {z : List Nat} {P : List (Str × Str)} (hw : Wh e w) (he : e = 59 ∨ e = 62) (h : Quiet2 e P) : Quiet2 e (P ++ [(w, mkS (z ++ [e]))]) := fun hn => by
  have h2 := h hn
  have he : e = 62 := he.resolve_left hn
  subst he
  exact ⟨calm_snoc h2.1 (by rw [lastEq_snoc]; rfl) fun hc => absurd hc (by decide), calm_snoc h2.2 (by rw [lastEq_snoc]; rfl) fun _ => wh_fst hw⟩
theorem nl_empty {h : Int} (h0 : 0 < h) : nlLines h [] [] = [("" : Str)] := by
  unfold nlLines
  have e : nlParts [] = [nul] := rfl
  have e2 : accLen [nul] = 0 := rfl
  have e3 : onlyws h [nul] = false := by unfold onlyws; rw [decide_eq_false (by omega : ¬ h = 0)]; rfl
  rw [e, e2, if_pos (by omega), e3]
  rfl
theorem nl_open {h : Int} {P : List (Str × Str)} {done : List Str} (h0 : 0 < h) : nlLines h (P ++ [nul]) done = done ++ [accStr P] := by
  unfold nlLines
  have e : nlParts (P ++ [nul]) = P ++ [nul] := by
    rw [nlParts_snoc, if_neg (by
      intro h
      have := congrArg (fun q : Str × Str => cs q.1) h
      exact absurd this (by show ¬ ([] : List Nat) = [32]; decide))]
  have e3 : onlyws h (P ++ [nul]) = false := by unfold onlyws; rw [decide_eq_false (by omega : ¬ h = 0)]; rfl
  rw [e, e3, if_pos (by omega), acc_nul]
theorem whole_tail {e : Nat} (q : List Nat) : wholeE ";" (mkS (q ++ [e])) = decide (e = 59) := whole_snoc q e 59
theorem first_tab {e : Nat} {w p : Str} (hw : Wh e w) (hp : Pc e p) : (Txt.item (w ++ p) 0 = "\t") ↔ w.length ≠ 0 := by
  rcases hw with rfl | ⟨rfl, _⟩
  · have e1 : ("\t " : Str) ++ p = mkS (9 :: 32 :: cs p) := cs_inj (by rw [cs_app]; rfl)
    rw [e1, item_first]
    exact ⟨fun _ => by decide, fun _ => rfl⟩
  · have e1 : ("" : Str) ++ p = p := cs_inj (by rw [cs_app]; rfl)
    obtain ⟨z, hz⟩ := hp.tail
    rw [e1]
    have hne : cs p ≠ [] := by rw [hz, cs_mk]; simp
    obtain ⟨a, l, hal⟩ := List.exists_cons_of_ne_nil hne
    have hpa : p = mkS (a :: l) := by rw [← mk_cs p, hal]
    have ha := hp.first a l hal
    rw [hpa, item_first]
    constructor
    · intro h
      exact absurd (mk1_inj.mp (show mkS [a] = mkS [9] from h)) ha
    · intro h; exact absurd rfl h
theorem whole_empty : wholeE ";" "" = false := whole_nil 59
theorem step_start {e : Nat} {W h : Int} {w p : Str} (he : e = 59 ∨ e = 62) (hw : Wh e w) (hp : Pc e p) (h0 : 0 ≤ h) :
    Rel e W (chunk W "; " (chunk W "; " ⟨h, [], []⟩ (w, p)) nul) (rstep W ";" ⟨[], "", h⟩ (w ++ p)) := by
  obtain ⟨z, hz⟩ := hp.tail
  have ft := first_tab hw hp
  have hlen : accLen ([] ++ [(w, p)]) = (w ++ p).length := by rw [List.nil_append, len_acc, acc_one]
  have hlast : ("" : Str) ++ (w ++ p) = w ++ p := cs_inj (by rw [cs_app]; rfl)
  by_cases hov : W < h + (w ++ p).length
  · have hov1 : W < h + accLen ([] ++ [(w, p)]) := by rw [hlen]; exact hov
    by_cases hh : 0 < h
    · have hc : chunk W "; " ⟨h, [], []⟩ (w, p) = ⟨0, [(if w.length = 0 then (" " : Str) else w, p)], nlLines h [] []⟩ := chunk_new (st := ⟨h, [], []⟩) (q := (w, p)) hov1 hh (split_one _)
      have hov2 : W < h + ((("" : Str) ++ (w ++ p)).length : Nat) := by rw [hlast]; exact hov
      have hr : rstep W ";" ⟨[], "", h⟩ (w ++ p) = ⟨[] ++ [("" : Str)], if wholeE ";" "" = true ∨ Txt.item (w ++ p) 0 = "\t" then w ++ p else " " ++ (w ++ p), 0⟩ := rstep_eq1 (st := ⟨[], "", h⟩) (p := w ++ p) hov2 (Or.inr hh)
      rw [hc, hr, nl_empty hh, List.nil_append, whole_empty]
      have e1 : (if false = true ∨ Txt.item (w ++ p) 0 = "\t" then w ++ p else " " ++ (w ++ p)) = (if w.length = 0 then (" " : Str) else w) ++ p := by
        by_cases hw0 : w.length = 0
        · rw [if_neg (by rintro (h | h); cases h; exact ft.mp h hw0), if_pos hw0]
          have : w = "" := by
            refine cs_inj ?_
            have : (cs w).length = 0 := by rw [cs_len, hw0]
            exact List.length_eq_zero_iff.mp this
          rw [this]; exact congrArg _ (cs_inj (by rw [cs_app]; rfl))
        · rw [if_pos (Or.inr (ft.mpr hw0)), if_neg hw0]
      rw [e1, hz]
      exact second (Y := []) he (Int.le_refl _) (acc_one _ _) (pc_quiet1 he) (.inr rfl)
    · have h00 : h = 0 := by omega
      subst h00
      have hc : chunk W "; " ⟨0, [], []⟩ (w, p) = ⟨0, [] ++ [(w, p)], []⟩ := chunk_stay (st := ⟨0, [], []⟩) (q := (w, p)) (by decide) (split_one _)
      have hr : rstep W ";" ⟨[], "", 0⟩ (w ++ p) = ⟨[], "" ++ (w ++ p), 0⟩ := rstep_eq2 (st := ⟨[], "", 0⟩) (p := w ++ p) (by
        rintro ⟨_, h2⟩
        rcases h2 with h2 | h2
        · have h2 : wholeE ";" "" = true := h2
          rw [whole_empty] at h2; cases h2
        · exact absurd h2 (by decide))
      rw [hc, hr, hlast, hz]
      exact second (Y := []) he (Int.le_refl _) (acc_one _ _) (pc_quiet1 he) (.inr rfl)
  · have hov1 : h + accLen ([] ++ [(w, p)]) ≤ W := by rw [hlen]; omega
    have hc : chunk W "; " ⟨h, [], []⟩ (w, p) = ⟨h, [] ++ [(w, p)], []⟩ := chunk_fit (st := ⟨h, [], []⟩) (q := (w, p)) hov1
    have hr : rstep W ";" ⟨[], "", h⟩ (w ++ p) = ⟨[], "" ++ (w ++ p), h⟩ := rstep_eq2 (st := ⟨[], "", h⟩) (p := w ++ p) (by
        rintro ⟨h1, _⟩
        have h1 : W < h + ((("" : Str) ++ (w ++ p)).length : Nat) := h1
        rw [hlast] at h1; exact hov h1)
    rw [hc, hr, hlast]
    rw [hz] at hov ⊢
    exact second (Y := []) (f := w) (z := z) he h0 (acc_one _ _) (pc_quiet1 he) (.inl (by omega))
theorem step_open {e : Nat} {W h : Int} {w p f last : Str} {Y : List (Str × Str)} {z0 : List Nat} {done : List Str} (he : e = 59 ∨ e = 62) (hw : Wh e w) (hp : Pc e p) (h0 : 0 ≤ h) (hl : accStr (Y ++ [(f, mkS (z0 ++ [e]))]) = last) (hq : Quiet2 e (Y ++ [(f, mkS (z0 ++ [e]))] ++ [nul])) :
    Rel e W (chunk W "; " (chunk W "; " ⟨h, Y ++ [(f, mkS (z0 ++ [e]))] ++ [nul], done⟩ (w, p)) nul) (rstep W ";" ⟨done, last, h⟩ (w ++ p)) := by
  obtain ⟨z, hz⟩ := hp.tail
  have ft := first_tab hw hp
  have hlen : accLen (Y ++ [(f, mkS (z0 ++ [e]))] ++ [nul] ++ [(w, p)]) = (last ++ (w ++ p)).length := by
    rw [len_acc, acc_app, acc_nul, hl, acc_one]
  obtain ⟨q, hq2⟩ := acc_tail Y f (z0 ++ [e])
  have hwl : wholeE ";" last = decide (e = 59) := by rw [← hl, hq2, ← List.append_assoc, whole_tail]
  by_cases hov : W < h + (last ++ (w ++ p)).length
  · have hov1 : W < h + accLen (Y ++ [(f, mkS (z0 ++ [e]))] ++ [nul] ++ [(w, p)]) := by rw [hlen]; exact hov
    rcases he with rfl | rfl
    · have hwl : wholeE ";" last = true := hwl
      have e0 : Y ++ [(f, mkS (z0 ++ [59]))] ++ [nul] ++ [(w, p)] = Y ++ [(f, mkS (z0 ++ [59])), nul] ++ [(w, p)] := by simp
      have hs : split "; " (Y ++ [(f, mkS (z0 ++ [59]))] ++ [nul] ++ [(w, p)]) = some (Y.length + 1) := by rw [e0]; exact split_s1
      have hc := chunk_at (st := ⟨h, Y ++ [(f, mkS (z0 ++ [59]))] ++ [nul], done⟩) (q := (w, p)) hov1 hs
      have hr : rstep W ";" ⟨done, last, h⟩ (w ++ p) = ⟨done ++ [last], if wholeE ";" last = true ∨ Txt.item (w ++ p) 0 = "\t" then w ++ p else " " ++ (w ++ p), 0⟩ := rstep_eq1 (st := ⟨done, last, h⟩) (p := w ++ p) hov (Or.inl hwl)
      rw [hc, hr]
      dsimp only
      rw [if_pos (Or.inl hwl)]
      have e1 : (Y ++ [(f, mkS (z0 ++ [59]))] ++ [nul] ++ [(w, p)]).drop (Y.length + 1) = [nul] ++ [(w, p)] := by
        rw [List.append_assoc (Y ++ [(f, mkS (z0 ++ [59]))]), List.drop_append_of_le_length (by simp)]
        simp
      have e2 : (Y ++ [(f, mkS (z0 ++ [59]))] ++ [nul] ++ [(w, p)]).take (Y.length + 1) = Y ++ [(f, mkS (z0 ++ [59]))] := by
        rw [List.append_assoc (Y ++ [(f, mkS (z0 ++ [59]))]), List.take_append_of_le_length (by simp)]
        exact List.take_of_length_le (by simp)
      rw [e1, e2, hl, hz]
      refine second (Y := [nul]) (.inl rfl) (Int.le_refl _) ?_ (fun hn => absurd rfl hn) (.inr rfl)
      refine cs_inj ?_
      rw [acc_app, cs_app, acc_one]; rfl
    · have hwl : wholeE ";" last = false := hwl
      have hw' : w = "\t " := by
        rcases hw with h | ⟨_, h⟩
        · exact h
        · exact absurd h (by decide)
      have hw0 : w.length ≠ 0 := by rw [hw']; decide
      have hqn : Quiet2 62 (Y ++ [(f, mkS (z0 ++ [62]))] ++ [nul] ++ [(w, p)]) := by
        rw [hz]; exact pc_quiet hw (.inr rfl) hq
      have hs := split_none (hqn (by decide)).1 (hqn (by decide)).2
      by_cases hh : 0 < h
      · have hc : chunk W "; " ⟨h, Y ++ [(f, mkS (z0 ++ [62]))] ++ [nul], done⟩ (w, p) = ⟨0, [(if w.length = 0 then (" " : Str) else w, p)], nlLines h (Y ++ [(f, mkS (z0 ++ [62]))] ++ [nul]) done⟩ := chunk_new (st := ⟨h, Y ++ [(f, mkS (z0 ++ [62]))] ++ [nul], done⟩) (q := (w, p)) hov1 hh hs
        have hr : rstep W ";" ⟨done, last, h⟩ (w ++ p) = ⟨done ++ [last], if wholeE ";" last = true ∨ Txt.item (w ++ p) 0 = "\t" then w ++ p else " " ++ (w ++ p), 0⟩ := rstep_eq1 (st := ⟨done, last, h⟩) (p := w ++ p) hov (Or.inr hh)
        rw [hc, hr, nl_open hh, hl, if_neg hw0, if_pos (Or.inr (ft.mpr hw0)), hz]
        exact second (Y := []) (.inr rfl) (Int.le_refl _) (acc_one _ _) (pc_quiet1 (.inr rfl)) (.inr rfl)
      · have h00 : h = 0 := by omega
        subst h00
        have hc := chunk_stay (W := W) (st := ⟨0, Y ++ [(f, mkS (z0 ++ [62]))] ++ [nul], done⟩) (q := (w, p)) (Int.lt_irrefl 0) hs
        have hr : rstep W ";" ⟨done, last, 0⟩ (w ++ p) = ⟨done, last ++ (w ++ p), 0⟩ := rstep_eq2 (st := ⟨done, last, 0⟩) (p := w ++ p) (by
          rintro ⟨_, h2⟩
          rcases h2 with h2 | h2
          · have h2 : wholeE ";" last = true := h2
            rw [hwl] at h2; cases h2
          · exact absurd h2 (Int.lt_irrefl 0))
        rw [hc, hr]
        dsimp only
        rw [hz] at hqn ⊢
        refine second (.inr rfl) (Int.le_refl _) ?_ hqn (.inr rfl)
        rw [acc_app, acc_nul, hl, acc_one]
  · have hov1 : h + accLen (Y ++ [(f, mkS (z0 ++ [e]))] ++ [nul] ++ [(w, p)]) ≤ W := by rw [hlen]; omega
    have hc := chunk_fit (st := ⟨h, Y ++ [(f, mkS (z0 ++ [e]))] ++ [nul], done⟩) (q := (w, p)) hov1
    have hr : rstep W ";" ⟨done, last, h⟩ (w ++ p) = ⟨done, last ++ (w ++ p), h⟩ := rstep_eq2 (st := ⟨done, last, h⟩) (p := w ++ p) (fun hh => hov hh.1)
    rw [hc, hr]
    dsimp only
    rw [hz] at hov ⊢
    refine second he h0 ?_ (pc_quiet hw he hq) (.inl (by omega))
    rw [acc_app, acc_nul, hl, acc_one]
theorem step_closed {W : Int} {w p last : Str} {z0 : List Nat} {done : List Str} (hw : Wh 59 w) (hp : Pc 59 p) (h2 : W < last.length) (h3 : last = mkS (z0 ++ [59])) :
    Rel 59 W (chunk W "; " (chunk W "; " ⟨0, [nul], done ++ [last]⟩ (w, p)) nul) (rstep W ";" ⟨done, last, 0⟩ (w ++ p)) := by
  obtain ⟨z, hz⟩ := hp.tail
  have hwl : wholeE ";" last = true := by rw [h3, whole_tail]; rfl
  have hc := chunk_stay (W := W) (st := ⟨0, [nul], done ++ [last]⟩) (q := (w, p)) (Int.lt_irrefl 0) (split_s3 (wh_fst hw))
  have hov : W < 0 + ((last ++ (w ++ p)).length : Nat) := by rw [slen_app]; omega
  have hr : rstep W ";" ⟨done, last, 0⟩ (w ++ p) = ⟨done ++ [last], if wholeE ";" last = true ∨ Txt.item (w ++ p) 0 = "\t" then w ++ p else " " ++ (w ++ p), 0⟩ := rstep_eq1 (st := ⟨done, last, 0⟩) (p := w ++ p) hov (Or.inl hwl)
  rw [hc, hr]
  dsimp only
  rw [if_pos (Or.inl hwl), hz]
  refine second (Y := [nul]) (.inl rfl) (Int.le_refl _) ?_ (fun hn => absurd rfl hn) (.inr rfl)
  refine cs_inj ?_
  rw [acc_app, cs_app, acc_one]; rfl
theorem rel_step {e : Nat} {W : Int} {st : FSt} {r : RSt} {w p : Str} (he : e = 59 ∨ e = 62) (hw : Wh e w) (hp : Pc e p) (R : Rel e W st r) :
    Rel e W (chunk W "; " (chunk W "; " st (w, p)) nul) (rstep W ";" r (w ++ p)) := by
  cases R with
  | start h0 => exact step_start he hw hp h0
  | opn h0 hl hq => exact step_open he hw hp h0 hl hq
  | closed h1 h2 h3 => subst h1; exact step_closed hw hp h2 h3
noncomputable def both (w : Str) (ps : List Str) : List (Str × Str) := ps.flatMap fun p => [(w, p), nul]
theorem rel_all {e : Nat} {W : Int} {w : Str} (he : e = 59 ∨ e = 62) (hw : Wh e w) : ∀ (ps : List Str) (st : FSt) (r : RSt), (∀ p ∈ ps, Pc e p) → Rel e W st r →
    Rel e W ((both w ps).foldl (chunk W "; ") st) ((ps.map fun p => w ++ p).foldl (rstep W ";") r)
  | [], st, r, _, R => R
  | p :: ps, st, r, h, R => rel_all he hw ps _ _ (fun q hq => h q (.tail _ hq)) (rel_step he hw (h p (.head _)) R)
theorem rel_end {e : Nat} {W : Int} {st : FSt} {r : RSt} (he : e = 59 ∨ e = 62) (R : Rel e W st r) (hne : st.parts ≠ []) : nlLines st.ini st.parts st.lines = r.rows := by
  cases R with
  | start h0 => exact absurd rfl hne
  | @opn Y f z h done last h0 hl hq =>
    have e1 : nlParts (Y ++ [(f, mkS (z ++ [e]))] ++ [nul]) = Y ++ [(f, mkS (z ++ [e]))] ++ [nul] := by
      rw [nlParts_snoc, if_neg (by
        intro h
        have := congrArg (fun q : Str × Str => cs q.1) h
        exact absurd this (by show ¬ ([] : List Nat) = [32]; decide))]
    obtain ⟨q, hq2⟩ := acc_tail Y f (z ++ [e])
    have e3 : onlyws h (Y ++ [(f, mkS (z ++ [e]))] ++ [nul]) = false := by
      unfold onlyws
      rw [len_acc, acc_nul, hq2]
      have h1 : ¬ (mkS (q ++ (z ++ [e]))).length = 0 := by rw [mk_len]; simp
      have h2 : Txt.isspace (mkS (q ++ (z ++ [e]))) = false := by
        unfold Txt.isspace
        have ha : Unicode.isSpace e = false := by rcases he with rfl | rfl <;> decide +kernel
        have : (mkS (q ++ (z ++ [e]))).cps.all Unicode.isSpace = false := by
          show (q ++ (z ++ [e])).toArray.all Unicode.isSpace = false
          simp [ha]
        rw [this, Bool.and_false]
      rw [h2, decide_eq_false h1]
      simp
    unfold nlLines
    dsimp only
    rw [e1, e3, if_pos (by rw [len_acc, acc_nul, hq2, mk_len]; simp only [List.length_append, List.length_cons]; omega), acc_nul, hl]
    rfl
  | @closed done last z h1 h2 h3 =>
    rfl
theorem rel_parts {e : Nat} {W : Int} {st : FSt} {r : RSt} (he : e = 59 ∨ e = 62) {w p : Str} (hw : Wh e w) (hp : Pc e p) (R : Rel e W st r) : (chunk W "; " (chunk W "; " st (w, p)) nul).parts ≠ [] := by
  have := rel_step he hw hp R
  generalize chunk W "; " (chunk W "; " st (w, p)) nul = s2 at this
  generalize hr : rstep W ";" r (w ++ p) = r2 at this
  cases this with
  | start h0 =>
    exfalso
    have h3 : 0 < (w ++ p).length := by
      obtain ⟨z, hz⟩ := hp.tail
      rw [slen_app, hz, mk_len]; simp; omega
    unfold rstep at hr
    split at hr
    · have := congrArg (fun x : RSt => x.done.length) hr
      simp at this
    · have := congrArg (fun x : RSt => x.last.length) hr
      dsimp only at this
      rw [slen_app] at this
      have e0 : ("" : Str).length = 0 := rfl
      omega
  | opn => simp
  | closed => simp
theorem fmt_rows2 {e : Nat} {W head : Int} {w p : Str} {ps : List Str} (he : e = 59 ∨ e = 62) (hw : Wh e w) (h0 : 0 ≤ head) (h : ∀ q ∈ ps ++ [p], Pc e q) :
    nlLines ((both w (ps ++ [p])).foldl (chunk W "; ") ⟨head, [], []⟩).ini ((both w (ps ++ [p])).foldl (chunk W "; ") ⟨head, [], []⟩).parts ((both w (ps ++ [p])).foldl (chunk W "; ") ⟨head, [], []⟩).lines = (rfold W ";" ((ps ++ [p]).map fun p => w ++ p) head).rows := by
  have R := rel_all he hw (ps ++ [p]) ⟨head, [], []⟩ ⟨[], "", head⟩ h (.start (W := W) h0)
  refine rel_end he R ?_
  unfold both
  rw [List.flatMap_append, List.foldl_append]
  have R1 := rel_all he hw ps ⟨head, [], []⟩ ⟨[], "", head⟩ (fun q hq => h q (List.mem_append_left _ hq)) (.start (W := W) h0)
  exact rel_parts he hw (h p (by simp)) R1
end
section
noncomputable def chN (step k : Nat) : Nat := if k % step = 0 then 120 else 111
theorem leadP_eq (white : Str) (step k : Nat) : leadP white (step : Int) k = (white, mkS [chN step k]) := by
  unfold leadP chN
  have e : (k : Int).fmod (step : Int) = ((k % step : Nat) : Int) := by rw [Int.fmod_eq_emod_of_nonneg _ (by omega)]; rfl
  rw [e]
  by_cases h : k % step = 0
  · rw [if_pos h, if_pos (by omega)]; rfl
  · rw [if_neg h, if_neg (by omega)]; rfl
structure LM where
  h : Nat
  cur : List Nat
  done : List (List Nat)
noncomputable def LM.step (size : Nat) (m : LM) (c : Nat) : LM := if size < m.h + m.cur.length + 1 then ⟨0, [c], m.done ++ [m.cur]⟩ else ⟨m.h, m.cur ++ [c], m.done⟩
noncomputable def lmN (size head step : Nat) : Nat → LM
  | 0 => ⟨head, [], []⟩
  | n + 1 => (lmN size head step n).step size (chN step n)
noncomputable def rowS (a b : Nat) (cur : List Nat) : Str := mkS (cur.flatMap fun c => [a, b, c])
noncomputable def toF (a b : Nat) (m : LM) : FSt := ⟨3 * m.h, m.cur.map fun c => (mkS [a, b], mkS [c]), m.done.map (rowS a b)⟩
noncomputable def xo (c : Nat) : Prop := c = 120 ∨ c = 111
structure LInv (size head n : Nat) (m : LM) : Prop where
  i1 : m.cur = [] → m.done = [] ∧ n = 0
  i3 : ∀ c ∈ m.cur, xo c
  i3' : ∀ r ∈ m.done, ∀ c ∈ r, xo c
  i4 : m.h + m.cur.length ≤ size
  i5 : (head + n) % size = (m.h + m.cur.length) % size
  i6 : m.done ≠ [] → m.h = 0
  i7 : m.done = [] → m.h = head
theorem xo_ch (step k : Nat) : xo (chN step k) := by unfold chN xo; split <;> simp
theorem linv {size head step : Nat} (hs : 1 ≤ size) (hh : head ≤ size) : ∀ n, LInv size head n (lmN size head step n)
  | 0 => ⟨fun _ => ⟨rfl, rfl⟩, by simp [lmN], by simp [lmN], by simpa [lmN] using hh, rfl, by simp [lmN], fun _ => rfl⟩
  | n + 1 => by
    have ih := linv (step := step) hs hh n
    have hx := xo_ch step n
    show LInv size head (n + 1) ((lmN size head step n).step size (chN step n))
    generalize lmN size head step n = m at ih
    generalize chN step n = c at hx
    unfold LM.step
    by_cases hov : size < m.h + m.cur.length + 1
    · rw [if_pos hov]
      have i4 := ih.i4
      have e : m.h + m.cur.length = size := by omega
      have i5 := ih.i5
      rw [e, Nat.mod_self] at i5
      refine ⟨by simp, fun x hx2 => by obtain rfl := List.mem_singleton.mp hx2; exact hx, fun r hr => ?_, by simpa using hs, ?_, fun _ => rfl, by simp⟩
      · rcases List.mem_append.mp hr with hr | hr
        · exact ih.i3' r hr
        · obtain rfl := List.mem_singleton.mp hr; exact ih.i3
      · show (head + (n + 1)) % size = (0 + 1) % size
        rw [← Nat.add_assoc, Nat.add_mod, i5, Nat.zero_add, Nat.zero_add, Nat.mod_mod]
    · rw [if_neg hov]
      refine ⟨by simp, fun x hx2 => ?_, ih.i3', by simp; omega, ?_, ih.i6, ih.i7⟩
      · rcases List.mem_append.mp hx2 with h | h
        · exact ih.i3 x h
        · obtain rfl := List.mem_singleton.mp h; exact hx
      · show (head + (n + 1)) % size = (m.h + (m.cur ++ [c]).length) % size
        rw [List.length_append, ← Nat.add_assoc, ← Nat.add_assoc, Nat.add_mod, ih.i5, ← Nat.add_mod]; rfl
structure Wk (a b : Nat) : Prop where
  s : Txt.isspace (mkS [a]) = true
  n44 : a ≠ 44
  n124 : a ≠ 124 ∧ b ≠ 124
  xa : ¬ xo a
theorem acc_row (a b : Nat) (cur : List Nat) : accStr (cur.map fun c => (mkS [a, b], mkS [c])) = rowS a b cur := cs_inj (by
  rw [cs_acc, List.flatMap_map]; rfl)
theorem fst_w (a b : Nat) : fstEq (mkS [a]) (mkS [a, b]) = true := by
  unfold fstEq
  rw [item_first]
  have : (mkS [a, b]).length = 2 := rfl
  rw [this]; simp
theorem inner_44 {a b : Nat} {l : List Nat} (hl : ∀ c ∈ l, xo c) : inner (l.map fun c => (mkS [a, b], mkS [c])) (mkS [44]) = none := by
  unfold inner
  refine downs_none fun j h1 h2 => ?_
  rw [List.length_map] at h2
  rw [hit_at (p := (mkS [a, b], mkS [l[j]])) (q := (mkS [a, b], mkS [l[j - 1]])) (by rw [List.getElem?_map, List.getElem?_eq_getElem h2]; rfl) (by rw [List.getElem?_map, List.getElem?_eq_getElem (by omega : j - 1 < l.length)]; rfl)]
  have hx := hl l[j - 1] (List.getElem_mem _)
  have e : lastEq (mkS [44]) (mkS [l[j - 1]]) = false := by
    rw [lastEq_one]
    refine decide_eq_false fun e => ?_
    rw [e] at hx
    rcases hx with h | h <;> exact absurd h (by decide)
  have e2 : Txt.isspace (mkS [44]) = false := by decide +kernel
  dsimp only
  rw [e, e2]; rfl
theorem split_w {a b : Nat} (w : Wk a b) {l : List Nat} (hl : ∀ c ∈ l, xo c) (h : 2 ≤ l.length) : split (mkS [44, a]) (l.map fun c => (mkS [a, b], mkS [c])) = some (l.length - 1) := by
  have e : sgn (mkS [44, a]) = [mkS [44], mkS [a]] := rfl
  unfold split
  rw [e]
  simp only [List.findSome?_cons, List.findSome?_nil]
  rw [inner_44 hl]
  have : inner (l.map fun c => (mkS [a, b], mkS [c])) (mkS [a]) = some (l.length - 1) := by
    unfold inner
    rw [List.length_map]
    refine downs_some (by omega) (by omega) ?_ fun j h1 h2 => by omega
    rw [hit_at (p := (mkS [a, b], mkS [l[l.length - 1]])) (q := (mkS [a, b], mkS [l[l.length - 1 - 1]])) (by rw [List.getElem?_map, List.getElem?_eq_getElem (by omega : l.length - 1 < l.length)]; rfl) (by rw [List.getElem?_map, List.getElem?_eq_getElem (by omega : l.length - 1 - 1 < l.length)]; rfl)]
    dsimp only
    rw [w.s, fst_w]; rfl
  rw [this]
theorem lead_len (a b : Nat) (l : List Nat) : accLen (l.map fun c => (mkS [a, b], mkS [c])) = 3 * l.length := by
  rw [len_acc, acc_row, rowS, mk_len]
  induction l with
  | nil => rfl
  | cons c r ih => rw [List.flatMap_cons, List.length_append, ih]; simp; omega
theorem lead_step {a b size head n : Nat} (w : Wk a b) {m : LM} {c : Nat} (I : LInv size head n m) (hs : 1 ≤ size) (hc : xo c) : chunk (3 * (size : Int)) (mkS [44, a]) (toF a b m) (mkS [a, b], mkS [c]) = toF a b (m.step size c) := by
  have hl : ∀ x ∈ m.cur ++ [c], xo x := fun x hx => by
    rcases List.mem_append.mp hx with h | h
    · exact I.i3 x h
    · obtain rfl := List.mem_singleton.mp h; exact hc
  have e0 : (toF a b m).parts ++ [(mkS [a, b], mkS [c])] = (m.cur ++ [c]).map fun c => (mkS [a, b], mkS [c]) := by simp [toF]
  have hlen : accLen ((toF a b m).parts ++ [(mkS [a, b], mkS [c])]) = 3 * (m.cur.length + 1) := by rw [e0, lead_len]; simp
  have hini : (toF a b m).ini = 3 * (m.h : Int) := rfl
  unfold chunk
  rw [hlen, hini]
  by_cases hov : size < m.h + m.cur.length + 1
  · rw [if_pos (by omega)]
    by_cases hcur : m.cur = []
    · have hd := (I.i1 hcur).1
      have h1 : split (mkS [44, a]) ((toF a b m).parts ++ [(mkS [a, b], mkS [c])]) = none := by rw [e0, hcur]; rfl
      rw [h1]
      dsimp only
      have hl0 : m.cur.length = 0 := by rw [hcur]; rfl
      rw [if_pos (by omega)]
      have h2 : (mkS [a, b]).length ≠ 0 := by show ¬ (2 = 0); decide
      rw [if_neg h2]
      have h3 : (toF a b m).parts = [] := by simp [toF, hcur]
      have h4 : (toF a b m).lines = [] := by simp [toF, hd]
      rw [h3, h4, nl_empty (by omega)]
      unfold LM.step
      rw [if_pos hov, hd, hcur]
      rfl
    · have hl2 : 2 ≤ (m.cur ++ [c]).length := by
        have := List.length_pos_iff.mpr hcur
        simp; omega
      rw [e0, split_w w hl hl2]
      dsimp only
      have e1 : (m.cur ++ [c]).length - 1 = m.cur.length := by simp
      rw [e1, ← List.map_drop, ← List.map_take, List.drop_left, List.take_left, acc_row]
      unfold LM.step
      rw [if_pos hov]
      simp [toF]
  · rw [if_neg (by omega), e0]
    unfold LM.step
    rw [if_neg hov]
    rfl
theorem lead_state {a b size head step : Nat} (w : Wk a b) (hs : 1 ≤ size) (hh : head ≤ size) : ∀ n, leadSt (3 * (size : Int)) (mkS [44, a]) (mkS [a, b]) (step : Int) (3 * (head : Int)) n = toF a b (lmN size head step n)
  | 0 => rfl
  | n + 1 => by
    rw [leadSt, lead_state w hs hh n, leadP_eq, lead_step w (linv hs hh n) hs (xo_ch step n)]
    rfl
noncomputable def LM.rows (m : LM) : List (List Nat) := m.done ++ [m.cur]
theorem nl_rows {a b size head n : Nat} {m : LM} (I : LInv size head n m) (hn : n ≠ 0) : nlLines (toF a b m).ini (toF a b m).parts (toF a b m).lines = m.rows.map (rowS a b) := by
  have hcur : m.cur ≠ [] := fun e => hn (I.i1 e).2
  obtain ⟨z, c, hz⟩ : ∃ z c, m.cur = z ++ [c] := by
    rcases List.eq_nil_or_concat m.cur with h | ⟨l, x, h⟩
    · exact absurd h hcur
    · exact ⟨l, x, by rw [h, List.concat_eq_append]⟩
  have hc := I.i3 c (by rw [hz]; simp)
  have ep : (toF a b m).parts = z.map (fun c => (mkS [a, b], mkS [c])) ++ [(mkS [a, b], mkS [c])] := by simp [toF, hz]
  have e1 : nlParts (toF a b m).parts = (toF a b m).parts := by
    rw [ep, nlParts_snoc, if_neg (by
      intro h
      have := congrArg (fun q : Str × Str => (cs q.2).length) h
      exact absurd this (by show ¬ 1 = 0; decide))]
  have e2 : accStr (toF a b m).parts = rowS a b m.cur := acc_row a b m.cur
  have e4 : ∃ q, rowS a b m.cur = mkS (q ++ [c]) := by
    refine ⟨z.flatMap (fun c => [a, b, c]) ++ [a, b], ?_⟩
    unfold rowS
    rw [hz, List.flatMap_append]
    simp
  obtain ⟨q, hq⟩ := e4
  have e3 : onlyws (toF a b m).ini (toF a b m).parts = false := by
    unfold onlyws
    rw [len_acc, e2, hq]
    have h1 : ¬ (mkS (q ++ [c])).length = 0 := by rw [mk_len]; simp
    have h2 : Txt.isspace (mkS (q ++ [c])) = false := by
      unfold Txt.isspace
      have ha : Unicode.isSpace c = false := by rcases hc with rfl | rfl <;> decide +kernel
      have : (mkS (q ++ [c])).cps.all Unicode.isSpace = false := by
        show (q ++ [c]).toArray.all Unicode.isSpace = false
        simp [ha]
      rw [this, Bool.and_false]
    rw [h2, decide_eq_false h1]
    simp
  unfold nlLines
  have h0 : (0 : Int) < (toF a b m).ini + accLen (toF a b m).parts := by
    have : (toF a b m).ini = 3 * (m.h : Int) := rfl
    rw [len_acc, e2, hq, mk_len, this, List.length_append]; simp only [List.length_cons]; omega
  rw [e1, e3, if_pos h0, e2]
  show m.done.map (rowS a b) ++ [rowS a b m.cur] = _
  simp [LM.rows]
theorem row_free {a b : Nat} (w : Wk a b) {cur : List Nat} (h : ∀ c ∈ cur, xo c) : 124 ∉ cs (rowS a b cur) := by
  rw [rowS, cs_mk]
  intro hm
  obtain ⟨c, hc, hm⟩ := List.mem_flatMap.mp hm
  simp only [List.mem_cons, List.not_mem_nil, or_false] at hm
  rcases hm with h1 | h1 | h1
  · exact w.n124.1 h1.symm
  · exact w.n124.2 h1.symm
  · have := h c hc
    rw [← h1] at this
    rcases this with h | h <;> exact absurd h (by decide)
theorem lead_rows {a b size head step marks : Nat} (w : Wk a b) (hs : 1 ≤ size) (hh : head ≤ size) (hm : 1 ≤ marks) : leadRows (size : Int) (step : Int) (marks : Int) (head : Int) (mkS [a, b]) = (lmN size head step (step * (marks - 1) + 1)).rows.map (rowS a b) := by
  have hn : ((step : Int) * ((marks : Int) - 1) + 1).toNat = step * (marks - 1) + 1 := by
    obtain ⟨m, rfl⟩ : ∃ m, marks = m + 1 := ⟨marks - 1, by omega⟩
    have : (step : Int) * (((m + 1 : Nat) : Int) - 1) + 1 = ((step * m + 1 : Nat) : Int) := by
      rw [show ((m + 1 : Nat) : Int) - 1 = (m : Int) by omega]; push_cast; rfl
    rw [this, Int.toNat_natCast]; rfl
  have hsc : ("," : Str) ++ Txt.item (mkS [a, b]) 0 = mkS [44, a] := by rw [item_first]; exact cs_inj (by rw [cs_app]; rfl)
  unfold leadRows
  rw [hn, hsc, lead_state w hs hh]
  dsimp only
  have I := linv (step := step) hs hh (step * (marks - 1) + 1)
  rw [nl_rows I (by omega)]
  generalize lmN size head step (step * (marks - 1) + 1) = m at I ⊢
  have hp : ("|" : Str) = ⟨#[124]⟩ := rfl
  rw [hp, split_eq, cs_join]
  have hb : cs (⟨#[124]⟩ : Str) = [124] := rfl
  rw [hb, List.map_map, spl_join]
  · rw [List.map_map]
    exact List.map_congr_left fun r _ => rfl
  · simp [LM.rows]
  · intro p hp
    obtain ⟨r, hr, rfl⟩ := List.mem_map.mp hp
    refine row_free w ?_
    rcases List.mem_append.mp hr with h | h
    · exact I.i3' r h
    · obtain rfl := List.mem_singleton.mp h; exact I.i3
end
section
theorem row_len (a b : Nat) (cur : List Nat) : (rowS a b cur).length / 3 = cur.length := by
  have : (rowS a b cur).length = 3 * cur.length := by rw [← acc_row, ← len_acc, lead_len]
  omega
theorem row_item {a b : Nat} {cur : List Nat} {j : Nat} (h : j < cur.length) : Txt.item (rowS a b cur) (3 * (j : Int) + 2) = mkS [cur[j]] := by
  unfold Txt.item Txt.charAt
  have hl : (rowS a b cur).length = 3 * cur.length := by rw [← acc_row, ← len_acc, lead_len]
  have e : seqIndex? (3 * (j : Int) + 2) (rowS a b cur).length = some (3 * j + 2) := by
    rw [hl, StrLaws.seqIndex_nonneg (by omega) (by omega)]
    congr 1
  rw [e]
  show mkS [((rowS a b cur).cps[3 * j + 2]?).getD 0] = _
  have : (rowS a b cur).cps[3 * j + 2]? = some cur[j] := by
    show (cur.flatMap fun c => [a, b, c]).toArray[3 * j + 2]? = _
    rw [List.getElem?_toArray]
    clear e hl
    induction cur generalizing j with
    | nil => simp at h
    | cons c r ih =>
      rw [List.flatMap_cons]
      cases j with
      | zero => rfl
      | succ j =>
        have h' : j < r.length := by simpa using h
        have := ih h'
        rw [List.getElem?_append_right (by simp; omega)]
        have e : 3 * (j + 1) + 2 - [a, b, c].length = 3 * j + 2 := by simp; omega
        rw [e, this]; simp
  rw [this]; rfl
noncomputable def markAt (ring : List Str) (p c : Nat) : List Str := if c = 120 then ring.set p "\t" else ring
theorem ring_step {a b : Nat} {cur : List Nat} {bg : Nat} {ring : List Str} {j : Nat} (h : j < cur.length) : ringRow (rowS a b cur) (bg : Int) ring (j + 1) = markAt (ringRow (rowS a b cur) (bg : Int) ring j) (bg + j) cur[j] := by
  rw [ringRow_succ, row_item h]
  unfold markAt
  have e : ("x" : Str) = mkS [120] := rfl
  have e2 : ((bg : Int) + (j : Int)).toNat = bg + j := by omega
  rw [e, e2]
  by_cases hc : cur[j] = 120
  · rw [if_pos hc, if_pos (mk1_inj.mpr hc)]
  · rw [if_neg hc, if_neg fun h => hc (mk1_inj.mp h)]
theorem ring_same {a b : Nat} {cur ext : List Nat} {bg : Int} {ring : List Str} : ∀ j, j ≤ cur.length → ringRow (rowS a b (cur ++ ext)) bg ring j = ringRow (rowS a b cur) bg ring j
  | 0, _ => rfl
  | j + 1, h => by
    rw [ringRow_succ, ringRow_succ, ring_same j (by omega), row_item (cur := cur ++ ext) (by rw [List.length_append]; omega), row_item (cur := cur) (by omega)]
    rw [List.getElem_append_left]
noncomputable def baseOf (bg : Int) (l : List Str) : Int := if l = [] then bg else 0
theorem rings_snoc : ∀ (l : List Str) (row : Str) (bg : Int) (ring : List Str), ringRows (l ++ [row]) bg ring = ringRow row (baseOf bg l) (ringRows l bg ring) (row.length / 3)
  | [], row, bg, ring => rfl
  | x :: r, row, bg, ring => by
    rw [List.cons_append, ringRows, rings_snoc r, ringRows]
    unfold baseOf
    simp
theorem fits_snoc : ∀ (l : List Str) (row : Str) (size bg : Int), rowsFit size bg l → 0 ≤ baseOf bg l → baseOf bg l + (row.length / 3 : Nat) ≤ size → row.length ≤ 1000 → rowsFit size bg (l ++ [row])
  | [], row, size, bg, _, h1, h2, h3 => ⟨h1, h2, h3, trivial⟩
  | x :: r, row, size, bg, h, h1, h2, h3 => by
    obtain ⟨f1, f2, f3, f4⟩ := h
    refine ⟨f1, f2, f3, fits_snoc r row size 0 f4 ?_ ?_ h3⟩
    · unfold baseOf; simp
    · have e : baseOf 0 r = 0 := by unfold baseOf; simp
      have e2 : baseOf bg (x :: r) = 0 := by unfold baseOf; simp
      rw [e]; rw [e2] at h2; exact h2
noncomputable def ringN (size head step : Nat) : Nat → List Str
  | 0 => List.replicate size " "
  | n + 1 => markAt (ringN size head step n) ((head + n) % size) (chN step n)
structure RInv (a b size head step n : Nat) : Prop where
  r : ringRows ((lmN size head step n).rows.map (rowS a b)) (head : Int) (List.replicate size " ") = ringN size head step n
  f : rowsFit (size : Int) (head : Int) ((lmN size head step n).done.map (rowS a b))
theorem rinv {a b size head step : Nat} (hs : 1 ≤ size) (hs2 : size ≤ 100) (hh : head ≤ size) : ∀ n, RInv a b size head step n
  | 0 => ⟨by
      show ringRow (rowS a b []) _ _ ((rowS a b []).length / 3) = _
      rw [row_len]; rfl, trivial⟩
  | n + 1 => by
    have ih := rinv (a := a) (b := b) (step := step) hs hs2 hh n
    have I := linv (step := step) hs hh n
    have e0 : lmN size head step (n + 1) = (lmN size head step n).step size (chN step n) := rfl
    have e9 : ringN size head step (n + 1) = markAt (ringN size head step n) ((head + n) % size) (chN step n) := rfl
    obtain ⟨ih1, ih2⟩ := ih
    refine ⟨?_, ?_⟩
    · rw [e0, e9, ← ih1]
      generalize lmN size head step n = m at I ih1 ih2
      generalize chN step n = c
      have hb : baseOf (head : Int) (m.done.map (rowS a b)) = (m.h : Int) := by
        unfold baseOf
        by_cases hd : m.done = []
        · rw [if_pos (by simp [hd]), I.i7 hd]
        · rw [if_neg (by simpa using hd), I.i6 hd]; rfl
      have i4 := I.i4
      have i5 := I.i5
      unfold LM.step
      by_cases hov : size < m.h + m.cur.length + 1
      · rw [if_pos hov]
        have e : m.h + m.cur.length = size := by omega
        rw [e, Nat.mod_self] at i5
        rw [i5]
        show ringRows ((m.done ++ [m.cur] ++ [[c]]).map (rowS a b)) _ _ = markAt (ringRows ((m.done ++ [m.cur]).map (rowS a b)) _ _) 0 c
        rw [List.map_append (l₁ := m.done ++ [m.cur])]
        show ringRows ((m.done ++ [m.cur]).map (rowS a b) ++ [rowS a b [c]]) _ _ = _
        rw [rings_snoc, row_len]
        have : baseOf (head : Int) ((m.done ++ [m.cur]).map (rowS a b)) = ((0 : Nat) : Int) := by unfold baseOf; rw [if_neg (by simp)]; rfl
        rw [this]
        have := ring_step (a := a) (b := b) (cur := [c]) (bg := 0) (ring := ringRows ((m.done ++ [m.cur]).map (rowS a b)) (head : Int) (List.replicate size " ")) (j := 0) (by simp)
        exact this
      · rw [if_neg hov]
        rw [Nat.mod_eq_of_lt (by omega : m.h + m.cur.length < size)] at i5
        rw [i5]
        show ringRows ((m.done ++ [m.cur ++ [c]]).map (rowS a b)) _ _ = markAt (ringRows ((m.done ++ [m.cur]).map (rowS a b)) _ _) (m.h + m.cur.length) c
        rw [List.map_append, List.map_append]
        show ringRows (m.done.map (rowS a b) ++ [rowS a b (m.cur ++ [c])]) _ _ = markAt (ringRows (m.done.map (rowS a b) ++ [rowS a b m.cur]) _ _) _ _
        rw [rings_snoc, rings_snoc, row_len, row_len, hb]
        have e1 : (m.cur ++ [c]).length = m.cur.length + 1 := by simp
        rw [e1, ring_step (by simp), ring_same _ (Nat.le_refl _)]
        congr 1
        simp
    · rw [e0]
      generalize lmN size head step n = m at I ih1 ih2
      generalize chN step n = c
      unfold LM.step
      have i4 := I.i4
      have hb : baseOf (head : Int) (m.done.map (rowS a b)) = (m.h : Int) := by
        unfold baseOf
        by_cases hd : m.done = []
        · rw [if_pos (by simp [hd]), I.i7 hd]
        · rw [if_neg (by simpa using hd), I.i6 hd]; rfl
      split
      · show rowsFit _ _ ((m.done ++ [m.cur]).map (rowS a b))
        rw [List.map_append]
        refine fits_snoc _ _ _ _ ih2 (by rw [hb]; omega) (by rw [hb, row_len]; omega) ?_
        have : (rowS a b m.cur).length = 3 * m.cur.length := by rw [← acc_row, ← len_acc, lead_len]
        omega
      · exact ih2
theorem rfit {a b size head step : Nat} (hs : 1 ≤ size) (hs2 : size ≤ 100) (hh : head ≤ size) (n : Nat) : rowsFit (size : Int) (head : Int) ((lmN size head step n).rows.map (rowS a b)) := by
  have R := rinv (a := a) (b := b) (step := step) hs hs2 hh n
  have I := linv (step := step) hs hh n
  have ih2 := R.f
  generalize lmN size head step n = m at I ih2
  have hb : baseOf (head : Int) (m.done.map (rowS a b)) = (m.h : Int) := by
    unfold baseOf
    by_cases hd : m.done = []
    · rw [if_pos (by simp [hd]), I.i7 hd]
    · rw [if_neg (by simpa using hd), I.i6 hd]; rfl
  have i4 := I.i4
  show rowsFit _ _ ((m.done ++ [m.cur]).map (rowS a b))
  rw [List.map_append]
  refine fits_snoc _ _ _ _ ih2 (by rw [hb]; omega) (by rw [hb, row_len]; omega) ?_
  have : (rowS a b m.cur).length = 3 * m.cur.length := by rw [← acc_row, ← len_acc, lead_len]
  show (rowS a b m.cur).length ≤ 1000
  omega
noncomputable def isX (size head step n r : Nat) : Bool := (List.range n).any fun k => k % step == 0 && (head + k) % size == r
theorem ringN_at {size head step : Nat} (hs : 1 ≤ size) {r : Nat} (hr : r < size) : ∀ n, (ringN size head step n).length = size ∧ (ringN size head step n)[r]? = some (if isX size head step n r = true then ("\t" : Str) else " ")
  | 0 => by
    refine ⟨by simp [ringN], ?_⟩
    show (List.replicate size (" " : Str))[r]? = _
    rw [List.getElem?_replicate, if_pos hr]; rfl
  | n + 1 => by
    obtain ⟨h1, h2⟩ := ringN_at hs hr n (head := head) (step := step)
    have hlt : (head + n) % size < size := Nat.mod_lt _ (by omega)
    have hx : isX size head step (n + 1) r = (isX size head step n r || (n % step == 0 && (head + n) % size == r)) := by
      unfold isX
      rw [List.range_succ, List.any_append]; simp
    rw [hx]
    show (markAt _ _ _).length = size ∧ (markAt _ _ _)[r]? = _
    unfold markAt chN
    by_cases h : n % step = 0
    · rw [if_pos h, if_pos rfl, List.length_set]
      refine ⟨h1, ?_⟩
      rw [List.getElem?_set]
      by_cases hp : (head + n) % size = r
      · rw [if_pos hp, if_pos (by omega)]; simp [h, hp]
      · rw [if_neg hp, h2]
        have : (n % step == 0 && (head + n) % size == r) = false := by simp [hp]
        rw [this, Bool.or_false]
    · rw [if_neg h, if_neg (by decide)]
      refine ⟨h1, ?_⟩
      have : (n % step == 0 && (head + n) % size == r) = false := by simp [h]
      rw [h2, this, Bool.or_false]
noncomputable def atX (size step marks j : Nat) : Bool := (List.range marks).any fun i => i * step % size == (j + 1) % size
noncomputable def leadD (size step marks : Nat) : Str := Str.join "" ((List.range size).map fun j => if atX size step marks j = true then "\t" else " ")
theorem isX_at {size head step marks j : Nat} (hs : 1 ≤ size) (hst : 1 ≤ step) (hm : 1 ≤ marks) : isX size head step (step * (marks - 1) + 1) ((head + 1 + j) % size) = atX size step marks j := by
  rw [Bool.eq_iff_iff]
  unfold isX atX
  simp only [List.any_eq_true, List.mem_range, Bool.and_eq_true, beq_iff_eq]
  have key : ∀ k : Nat, ((head + k) % size = (head + 1 + j) % size) ↔ (k % size = (j + 1) % size) := fun k => by
    have h1 : ((head + k) % size = (head + 1 + j) % size) ↔ (((head + k : Nat) : Int) % (size : Int) = ((head + 1 + j : Nat) : Int) % (size : Int)) := by omega
    have h2 : (k % size = (j + 1) % size) ↔ (((k : Nat) : Int) % (size : Int) = ((j + 1 : Nat) : Int) % (size : Int)) := by omega
    rw [h1, h2, Int.emod_eq_emod_iff_emod_sub_eq_zero, Int.emod_eq_emod_iff_emod_sub_eq_zero]
    have e : ((head + k : Nat) : Int) - ((head + 1 + j : Nat) : Int) = ((k : Nat) : Int) - ((j + 1 : Nat) : Int) := by omega
    rw [e]
  constructor
  · rintro ⟨k, hk, hk0, hk1⟩
    have hd : step ∣ k := Nat.dvd_of_mod_eq_zero hk0
    obtain ⟨i, rfl⟩ := hd
    refine ⟨i, ?_, by rw [Nat.mul_comm]; exact (key _).mp hk1⟩
    have : step * i < step * (marks - 1) + 1 := hk
    have h3 : step * i ≤ step * (marks - 1) := by omega
    have := Nat.le_of_mul_le_mul_left h3 (by omega)
    omega
  · rintro ⟨i, hi, hi1⟩
    refine ⟨step * i, ?_, Nat.mul_mod_right _ _, (key _).mpr (by rw [Nat.mul_comm]; exact hi1)⟩
    have : step * i ≤ step * (marks - 1) := Nat.mul_le_mul_left _ (by omega)
    omega
theorem lead_closed {a b size head step marks : Nat} (w : Wk a b) (hs : 1 ≤ size) (hs2 : size ≤ 100) (hh : head ≤ size) (hst : 1 ≤ step) (hm : 1 ≤ marks) : leadOf (size : Int) (step : Int) (marks : Int) (head : Int) (mkS [a, b]) = leadD size step marks := by
  unfold leadOf leadD
  rw [lead_rows w hs hh hm]
  dsimp only
  rw [Int.toNat_natCast, (rinv hs hs2 hh _).r]
  congr 1
  refine List.map_congr_left fun j hj => ?_
  have e : ((head : Int) + 1 + (j : Int)).fmod (size : Int) = (((head + 1 + j) % size : Nat) : Int) := by rw [Int.fmod_eq_emod_of_nonneg _ (by omega)]; push_cast; rfl
  rw [e, Int.toNat_natCast, List.getD_eq_getElem?_getD, (ringN_at hs (Nat.mod_lt _ (by omega)) _).2, Option.getD_some, isX_at hs hst hm]
theorem lead_fits {a b size head step marks : Nat} (w : Wk a b) (hs : 1 ≤ size) (hs2 : size ≤ 100) (hh : head ≤ size) (hm : 1 ≤ marks) : rowsFit (size : Int) (head : Int) (leadRows (size : Int) (step : Int) (marks : Int) (head : Int) (mkS [a, b])) := by
  rw [lead_rows w hs hh hm]
  exact rfit hs hs2 hh _
theorem wk_t : Wk 32 9 := ⟨by decide +kernel, by decide, by decide, by unfold xo; decide⟩
theorem wk_f : Wk 9 32 := ⟨by decide +kernel, by decide, by decide, by unfold xo; decide⟩
theorem lead_plain {size head step marks : Nat} (plain : Bool) (hs : 1 ≤ size) (hs2 : size ≤ 100) (hh : head ≤ size) (hst : 1 ≤ step) (hm : 1 ≤ marks) : leadOf (size : Int) (step : Int) (marks : Int) (head : Int) (whiteA plain) = leadD size step marks ∧ rowsFit (size : Int) (head : Int) (leadRows (size : Int) (step : Int) (marks : Int) (head : Int) (whiteA plain)) := by
  cases plain
  · exact ⟨lead_closed wk_f hs hs2 hh hst hm, lead_fits wk_f hs hs2 hh hm⟩
  · exact ⟨lead_closed wk_t hs hs2 hh hst hm, lead_fits wk_t hs hs2 hh hm⟩
end
section
noncomputable def leadG (gaps : List Int) : Str := Str.join "" (gaps.map fun g => Txt.mul " " (g - 1) ++ "\t")
noncomputable def cntI (size step marks : Int) : List Nat := (wsOf (leadG (gapsI size step marks))).cnt
noncomputable def okA1 (P : List Int) (size first last near far : Int) : Bool :=
  decide (∀ M ∈ P.drop 1, (∀ a ∈ P.drop 1, M ≤ a) → ((P.idxOf M : Nat) : Int) = first) &&
  decide (∀ M ∈ P, (∀ a ∈ P, a ≤ M) → ((P.idxOf M : Nat) : Int) = last) &&
  decide (P[first.toNat]? = some near) && decide (P[last.toNat]? = some (size - far)) &&
  decide (0 ≤ first) && decide (first ≤ 100) && decide (0 ≤ last) && decide (last ≤ 100)
noncomputable def okA2 (gaps : List Int) : Bool := decide (∀ g ∈ gaps, 1 ≤ g ∧ g ≤ 100) && decide (gaps.length ≤ 100) && decide (0 < gaps.length)
noncomputable def okA (size step marks : Nat) : Bool :=
  okA1 (placesL size step marks) size (fstI size step marks) (lstI size step marks) (nearI size step marks) (farI size step marks) &&
  okA2 (gapsI size step marks) && decide (cs (leadD size step marks) = cs (leadG (gapsI size step marks)))
noncomputable def good : List (Nat × Nat × Nat) := ([5, 6, 7, 8] : List Nat).flatMap fun size => (List.range (size - 1)).flatMap fun s => (List.range (size / Nat.gcd size (s + 1) - 1)).map fun m => (size, s + 1, m + 2)
set_option profiler true in
theorem allA : (good.all fun q => okA q.1 q.2.1 q.2.2) = true := by decide +kernel
noncomputable def okB1 (ps : List (Int × Int)) (cnt : List Nat) : Bool :=
  decide (∀ p ∈ ps, p.2 > 0 → 1 ≤ p.1 ∧ p.1 ≤ 1000) && decide (0 < (posGaps ps).length) &&
  decide (∀ M ∈ posGaps ps, (∀ a ∈ posGaps ps, a ≤ M) → cfold ps M = cnt.map fun x => ((x : Nat) : Int)) &&
  decide (1 ≤ cnt.length) && decide (cnt.length ≤ 1000) && decide (∀ p ∈ ps, -1000 ≤ p.1 ∧ p.1 ≤ 1000 ∧ -1000 ≤ p.2 ∧ p.2 ≤ 1000)
noncomputable def okB2 (size marks spare : Nat) (ps : List (Int × Int)) (lead : Str) (cnt : List Nat) : Bool :=
  (let w := wsOf (rawOf lead spare); decide (w.n = size + spare) && decide (w.nt = marks) && decide (w.cnt = cnt) && decide (w.b = spare)) &&
  ((List.range (size + 1)).all fun i => decide ((spare : Int) + ((i + 1 : Nat) : Int) * ((ilev (i + 1) cnt (cnt.length - (i + 1)) : Nat) + (marks : Int)) = (spare : Int) + ((i + 1 : Nat) : Int) * (ps.map fun (p : Int × Int) => p.2 * (p.1 + ((i + 1 : Nat) : Int) - 1).fdiv ((i + 1 : Nat) : Int)).sum)) &&
  (let w := wsOf (aboutOf lead spare); decide (w.cnt = cnt) && decide (w.b = spare)) &&
  (let w := wsOf (aboutOf lead spare ++ " "); !(decide (w.cnt = cnt) && decide (w.b = spare))) &&
  decide (lead.length ≤ 100) && decide ((sslice lead none (some (-1)) none).length ≤ 100) && decide ((sslice (sslice lead none (some (-1)) none) none none (some (-1))).length ≤ 100)
noncomputable def okB (size step marks : Nat) : Bool :=
  let ps := psOf marks (fstI size step marks) (lstI size step marks) (nearI size step marks) (farI size step marks)
  let lead := leadG (gapsI size step marks)
  let cnt := cntI size step marks
  okB1 ps cnt && okB2 size marks 0 ps lead cnt && okB2 size marks 1 ps lead cnt && okB2 size marks 2 ps lead cnt
set_option profiler true in
theorem allB : (good.all fun q => okB q.1 q.2.1 q.2.2) = true := by decide +kernel
end
section
theorem canAll_ints : ∀ l : List Int, PyData.canLayAll0 (l.map .int) = true
  | [] => by simp [PyData.canLayAll0]
  | x :: r => by have := canAll_ints r; simp only [List.map_cons]; rw [PyData.canLayAll0, PyData.canLay0, this]; rfl
theorem depthAll_ints : ∀ l : List Int, PyData.depthAll (l.map .int) = 0
  | [] => by simp [PyData.depthAll]
  | x :: r => by have := depthAll_ints r; simp only [List.map_cons]; rw [PyData.depthAll, PyData.depth, this]; rfl
theorem good_mem {size step marks : Nat} (h1 : 5 ≤ size) (h2 : size ≤ 8) (h3 : 1 ≤ step) (h4 : step < size) (h5 : 2 ≤ marks) (h6 : marks ≤ size / Nat.gcd size step) : (size, step, marks) ∈ good := by
  unfold good
  refine List.mem_flatMap.mpr ⟨size, ?_, List.mem_flatMap.mpr ⟨step - 1, List.mem_range.mpr (by omega), List.mem_map.mpr ⟨marks - 2, List.mem_range.mpr ?_, ?_⟩⟩⟩
  · have : size = 5 ∨ size = 6 ∨ size = 7 ∨ size = 8 := by omega
    rcases this with rfl | rfl | rfl | rfl <;> simp
  · rw [show step - 1 + 1 = step by omega]; omega
  · rw [show step - 1 + 1 = step by omega, show marks - 2 + 2 = marks by omega]
theorem weight_ints : ∀ l : List Int, (∀ x ∈ l, 0 ≤ x ∧ x < 1000) → PyData.weightAll (l.map .int) ≤ 12 * l.length
  | [], _ => by simp [PyData.weightAll]
  | x :: r, h => by
    have ih := weight_ints r fun y hy => h y (.tail _ hy)
    obtain ⟨h1, h2⟩ := h x (.head _)
    have hx : PyData.weight (.int x) ≤ 11 := by
      rw [PyData.weight]
      split
      · decide
      · rename_i hne
        have hx0 : x.natAbs ≠ 0 := by
          intro e; apply hne; simp; omega
        have := (Nat.log2_lt hx0 (k := 10)).mpr (by omega)
        omega
    simp only [List.map_cons, List.length_cons]
    rw [PyData.weightAll]
    omega
structure Rg (size step marks : Int) (s st m : Nat) : Prop where
  e1 : size = s
  e2 : step = st
  e3 : marks = m
  h1 : 5 ≤ s
  h2 : s ≤ 8
  h3 : 1 ≤ st
  h4 : st < s
  h5 : 2 ≤ m
  h6 : (s, st, m) ∈ good
theorem rg_of {size step marks : Int} (h1 : 5 ≤ size) (h2 : size ≤ 8) (h3 : 1 ≤ step) (h4 : step < size) (h5 : 2 ≤ marks) (h6 : marks ≤ size.fdiv (Nat.gcd size.toNat step.toNat : Nat)) : ∃ s st m, Rg size step marks s st m := by
  obtain ⟨s, rfl⟩ := Int.eq_ofNat_of_zero_le (by omega : 0 ≤ size)
  obtain ⟨st, rfl⟩ := Int.eq_ofNat_of_zero_le (by omega : 0 ≤ step)
  obtain ⟨m, rfl⟩ := Int.eq_ofNat_of_zero_le (by omega : 0 ≤ marks)
  refine ⟨s, st, m, rfl, rfl, rfl, by omega, by omega, by omega, by omega, by omega, good_mem (by omega) (by omega) (by omega) (by omega) (by omega) ?_⟩
  rw [Int.fdiv_eq_ediv_of_nonneg _ (by omega), Int.toNat_natCast, Int.toNat_natCast] at h6
  have : ((s / Nat.gcd s st : Nat) : Int) = (s : Int) / (Nat.gcd s st : Nat) := by push_cast; rfl
  omega
theorem okA_of {s st m : Nat} (h : (s, st, m) ∈ good) : okA s st m = true := by
  have h1 := allA
  rw [List.all_eq_true] at h1
  have h2 := h1 (s, st, m) h
  dsimp only at h2
  exact h2
theorem okB_of {s st m : Nat} (h : (s, st, m) ∈ good) : okB s st m = true := by
  have h1 := allB
  rw [List.all_eq_true] at h1
  have h2 := h1 (s, st, m) h
  dsimp only at h2
  exact h2
theorem afacts (size step marks head : Int) (plain : Bool) (h1 : 5 ≤ size) (h2 : size ≤ 8) (h3 : 1 ≤ step) (h4 : step < size) (h5 : 2 ≤ marks) (h6 : marks ≤ size.fdiv (Nat.gcd size.toNat step.toNat : Nat)) (h7 : 0 ≤ head) (h8 : head ≤ size) :
    ∃ first last near far gaps, AFacts size step marks head first last near far plain gaps := by
  obtain ⟨s, st, m, R⟩ := rg_of h1 h2 h3 h4 h5 h6
  obtain ⟨hd, rfl⟩ := Int.eq_ofNat_of_zero_le h7
  obtain ⟨rfl, rfl, rfl, r1, r2, r3, r4, r5, r6⟩ := R
  have ok := okA_of r6
  unfold okA at ok
  simp only [Bool.and_eq_true, decide_eq_true_eq, okA1, okA2] at ok
  obtain ⟨⟨⟨⟨⟨⟨⟨⟨⟨a1, a2⟩, a3⟩, a4⟩, a5⟩, a6⟩, a7⟩, a8⟩, ⟨⟨b1, b2⟩, b3⟩⟩, l⟩ := ok
  obtain ⟨l1, l2⟩ := lead_plain (size := s) (head := hd) (step := st) (marks := m) plain (by omega) (by omega) (by omega) (by omega) (by omega)
  refine ⟨_, _, _, _, _, ⟨?_, a1, a2, a3, a4, a5, a6, a7, a8, rfl, b1, b2, l2, ⟨rfl, rfl, rfl, rfl, rfl⟩, ?_⟩⟩
  · unfold PyData.layable0
    have e1 : (PyData.list ((placesL (s : Int) (st : Int) (m : Int)).map .int)).canLay0 = true := by rw [PyData.canLay0]; exact canAll_ints _
    have e2 : PyData.depth (PyData.list ((placesL (s : Int) (st : Int) (m : Int)).map .int)) ≤ 64 := by rw [PyData.depth, depthAll_ints]; decide
    have e3 : PyData.weight (PyData.list ((placesL (s : Int) (st : Int) (m : Int)).map .int)) ≤ 2 ^ 20 := by
      rw [PyData.weight]
      have hw := weight_ints (placesL (s : Int) (st : Int) (m : Int)) fun x hx => by
        obtain ⟨k, hk, rfl⟩ := List.mem_map.mp hx
        have q1 : 0 ≤ ((k : Int) * (st : Int)).fmod (s : Int) := Int.fmod_nonneg (Int.mul_nonneg (by omega) (by omega)) (by omega)
        have q2 : ((k : Int) * (st : Int)).fmod (s : Int) < s := Int.fmod_lt_of_pos _ (by omega)
        omega
      have hl : (placesL (s : Int) (st : Int) (m : Int)).length = m := by simp [placesL]
      have hm8 : m ≤ 8 := by
        have q1 : ((m : Nat) : Int) ≤ (s : Int) / (Nat.gcd (s : Int).toNat (st : Int).toNat : Nat) := by rw [Int.fdiv_eq_ediv_of_nonneg _ (by omega)] at h6; exact h6
        have := Int.ediv_le_self (a := (s : Int)) (Nat.gcd (s : Int).toNat (st : Int).toNat : Nat) (by omega)
        omega
      rw [hl] at hw
      omega
    rw [e1, decide_eq_true e2, decide_eq_true e3]; rfl
  · rw [l1]; exact cs_inj l
theorem bfacts {size step marks head : Int} {plain : Bool} {first last near far : Int} {gaps : List Int} (h1 : 5 ≤ size) (h2 : size ≤ 8) (h3 : 1 ≤ step) (h4 : step < size) (h5 : 2 ≤ marks) (h6 : marks ≤ size.fdiv (Nat.gcd size.toNat step.toNat : Nat)) (F : AFacts size step marks head first last near far plain gaps) {spare : Int} (s0 : 0 ≤ spare) (s1 : spare < 3) :
    BFacts size marks first last near far spare (leadG gaps) (cntI size step marks) := by
  obtain ⟨s, st, m, R⟩ := rg_of h1 h2 h3 h4 h5 h6
  obtain ⟨rfl, rfl, rfl, r1, r2, r3, r4, r5, r6⟩ := R
  obtain ⟨rfl, rfl, rfl, rfl, rfl⟩ := F.eqs
  have ok := okB_of r6
  unfold okB at ok
  simp only [Bool.and_eq_true] at ok
  obtain ⟨⟨⟨o1, o2⟩, o3⟩, o4⟩ := ok
  have o : okB2 s m spare.toNat (psOf m (fstI s st m) (lstI s st m) (nearI s st m) (farI s st m)) (leadG (gapsI s st m)) (cntI s st m) = true := by
    have : spare = 0 ∨ spare = 1 ∨ spare = 2 := by omega
    rcases this with rfl | rfl | rfl
    · exact o2
    · exact o3
    · exact o4
  obtain ⟨sp, rfl⟩ := Int.eq_ofNat_of_zero_le s0
  rw [Int.toNat_natCast] at o
  generalize leadG (gapsI s st m) = lead at o ⊢
  generalize cntI s st m = cnt at o o1 ⊢
  unfold okB1 at o1
  unfold okB2 at o
  simp only [Bool.and_eq_true, decide_eq_true_eq, List.all_eq_true, List.mem_range, Bool.not_eq_true', Bool.and_eq_false_iff, decide_eq_false_iff_not] at o o1
  obtain ⟨⟨⟨⟨⟨a1, a2⟩, a3⟩, a4⟩, a5⟩, a6⟩ := o1
  obtain ⟨⟨⟨⟨⟨⟨⟨⟨⟨b1, b2⟩, b3⟩, b4⟩, c⟩, d1, d2⟩, e⟩, f1⟩, f2⟩, f3⟩ := o
  refine ⟨a1, a2, a3, by omega, by omega, b3, by omega, a4, a5, fun t ht1 ht2 => ?_, d1, by omega, ?_, f1, a6, f2, f3⟩
  · have := c (t - 1) (by omega)
    rw [show t - 1 + 1 = t by omega] at this
    exact this
  · rintro ⟨q1, q2⟩
    rcases e with e | e
    · exact e q1
    · exact e (by omega)
end
section
theorem AEP_methb {n : Nat} {c : Cx} {env : Env} {loc : Loc} {H : Own} {P : AV → Own → Prop} {pos : Pos} {o e : Expr} {es : List Expr} {name : Str} {apos : Pos} (id : String) {pl : Sem Bool} (h : AEP n c env o loc H fun v H1 => OpMeth c v name (.builtin id) loc H1 ∧ AEs c env pos (e :: es) loc H1 fun vs H2 => OpCall c (.builtin id) (v :: vs) loc H2 P)
    (h1 : eval (.Call (.Attribute o name apos) (e :: es) [] pos) env = (do let ov ← eval o env; standAt apos.atName; let (f, first) ← holding [ov] (getMethod ov name pl); callWith pos f first (backTo pos (starEach (e :: es) env)) []) := by with_unfolding_all rfl)
    (h2 : starEach (e :: es) env = (false, eval e env) :: starEach es env := by with_unfolding_all rfl) (h3 : ((backTo pos (starEach es env)).any (·.1)) = false := by with_unfolding_all rfl) : AEP n c env (.Call (.Attribute o name apos) (e :: es) [] pos) loc H P := fun T s R hn =>
  MethodCall_ (thenW (h T s R hn) fun v' s1 v H1 R1 ⟨hm, hh⟩ => hm _ _ v' _ R1 (.head _) _ _ fun tk =>
    PyProof.Rows.callWith_method1 (thenA (hh _ _ R1.tok) fun vs' s2 vs H2 T' R2 hA hT hc => (hc _ _ _ R2 (.cons (hT _ (.head _)) hA)).sub fun p hp => hT _ (.tail _ hp)) h2 h3) h1
theorem AEP_ifexpB {n : Nat} {c : Cx} {env : Env} {loc : Loc} {H : Own} {P : AV → Own → Prop} {pos : Pos} {t e1 e2 : Expr} (B : Bool) (h : AB c env t loc H fun b H1 => b = B ∧ H1 = H) (h1 : B = true → AEP n c env e1 loc H P) (h2 : B = false → AEP n c env e2 loc H P) : AEP n c env (.IfExp t e1 e2 pos) loc H P :=
  AEP_ifexp fun T s R => thenB (h T s R) fun b s1 H1 R1 ⟨e1, e2⟩ => ⟨H1, R1, by subst e1 e2; exact ⟨h1, h2⟩⟩
noncomputable def piecesOf (gaps : List Int) (z : Str) : List Str := gaps.map fun g => Txt.mul " " (g - 1) ++ z
noncomputable def writ (gaps : List Int) (z : Str) : Str := Str.join "" (piecesOf gaps z)
noncomputable def semiB (z : Str) : Bool := decide (Txt.item z (-1) = ";")
noncomputable def runsOf (gaps : List Int) (z : Str) : List Str := if semiB z = true then piecesOf gaps z else Txt.split (Txt.replace (writ gaps z) " " " |") "|"
structure CFacts (plain : Bool) (gaps : List Int) (leadS y z : Str) : Prop where
  nm : dAt (if plain = true then namesA else namesC) y = some (.str z)
  yl : y.length = 1
  z1 : 1 ≤ z.length
  z2 : z.length ≤ 6
  tl : (Txt.replace leadS "\t" y).length ≤ 12
  ll : leadS.length ≤ 100
  wr : (if plain = true then escA (Txt.replace leadS "\t" y) else escC (Txt.replace leadS "\t" y)) = writ gaps z
  gp : ∀ g ∈ gaps, 1 ≤ g ∧ g ≤ 100
  gl : gaps.length ≤ 100
  gn : 0 < gaps.length
theorem pieces_len {gaps : List Int} {z : Str} (gp : ∀ g ∈ gaps, 1 ≤ g ∧ g ≤ 100) (z2 : z.length ≤ 6) : ∀ p ∈ piecesOf gaps z, p.length ≤ 110 := fun p hp => by
  obtain ⟨g, hg, rfl⟩ := List.mem_map.mp hp
  obtain ⟨h1, h2⟩ := gp g hg
  rw [slen_app, mul_sp_len]; omega
theorem pieces_sum {gaps : List Int} {z : Str} (gp : ∀ g ∈ gaps, 1 ≤ g ∧ g ≤ 100) (z2 : z.length ≤ 6) (gl : gaps.length ≤ 100) : ((piecesOf gaps z).map (·.length)).sum ≤ 11000 := by
  have h := sum_le_of (l := (piecesOf gaps z).map (·.length)) (b := 110) fun x hx => by
    obtain ⟨p, hp, rfl⟩ := List.mem_map.mp hx
    exact pieces_len gp z2 p hp
  have e : ((piecesOf gaps z).map (·.length)).length = gaps.length := by simp [piecesOf]
  rw [e] at h
  omega
theorem writ_len {gaps : List Int} {z : Str} (gp : ∀ g ∈ gaps, 1 ≤ g ∧ g ≤ 100) (z2 : z.length ≤ 6) (gl : gaps.length ≤ 100) : (writ gaps z).length ≤ 11000 := by
  unfold writ; rw [leadOf_len]; exact pieces_sum gp z2 gl
set_option maxHeartbeats 16000000 in
theorem lawC1 {k : Nat} {w : World} {os : OsState} {base : Heap} {outer : List Env} {A₀ A : Around} {h₀ : Heap} {L : Addr} {X Y : Led} {H : Own} {Q : SP} {n t : Nat} {plain : Bool} {y z leadS : Str} {gaps : List Int} {tv stp siz script drawn marks head spare places first last near far prs ct rd ab : Option AV} :
    let c : Cx := lawCx w os base outer A₀ A h₀ L X Y
    c.Good (k + 10) → 0 < t → t < n → CFacts plain gaps leadS y z →
    (ASsP n c c.env (lawF.body.drop 29)
        (Lc script drawn (some (.bool plain)) marks head (some (.val (.str y t))) spare places first last near far (some (.lst (gaps.map AV.int))) (some (.str leadS)) prs ct rd ab (some (.lst ((piecesOf gaps z).map AV.str))) (some (.str (Txt.replace leadS "\t" y))) (some (.str (writ gaps z))) none none none none none none none) (Hc L none (some (.str z)) tv stp siz H) Q) →
    ASsP n c c.env (lawF.body.drop 24)
      (Lc script drawn (some (.bool plain)) marks head (some (.val (.str y t))) spare places first last near far (some (.lst (gaps.map AV.int))) (some (.str leadS)) prs ct rd ab none none none none none none none none none none) (Hc L none none tv stp siz H) Q := by
  intro c G ht0 htn F hcont
  have hcN : c.cells.lookup (Str.ofString "name") = some (L + 1 + 1 + 1 + 1) := by rfl
  have hkN : c.scope.names.lookup (Str.ofString "name") = some .cell := by rfl
  have hyl := F.yl
  have hz1 := F.z1
  have hz2 := F.z2
  have htl := F.tl
  have hll := F.ll
  have hgl := F.gl
  have hsum := pieces_sum F.gp F.z2 F.gl
  have hwl := writ_len F.gp F.z2 F.gl
  have hpl : (piecesOf gaps z).length = gaps.length := by simp [piecesOf]
  dsimp only [lawF, List.drop_succ_cons, List.drop_zero]
  refine ASsP_cons (AS.p (AS_assign (AE_callf 307 G (fun w => by kernel_rfl) ?_)))
  refine AE_global (by assumption) (fun w => by rfl) (by rfl) (fun B N => .ref _) ⟨rfl, ?_⟩
  refine AEs_cons (AE_view ?_)
  refine AE_local (by assumption) (mi 5 rfl) ?_
  refine ⟨_, _, rfl, ?_⟩
  refine AEs_cons ?_; refine AE_local (by assumption) (mi 2 rfl) ?_; refine AEs_nil ?_
  refine OpCall_of G (name_spec (k := k + 9) F.nm ?_)
  refine St1_cell G hcN hkN (by with_reducible repeat first | exact At.head | apply At.tail) ?_
  refine ASsP_cons (AS.p (AS_listcomp (cl := [(Str.ofString "name", L + 1 + 1 + 1 + 1)]) G ["gap"] (closure_of (by rfl)) ?_))
  refine AE_local (by assumption) (mi 12 rfl) ?_
  refine ⟨gaps.map AV.int, fun i => (gaps[i]?).bind fun g => some (.str (Txt.mul " " (g - 1) ++ z)), It_lst, by rw [List.length_map]; omega, ?_, ?_⟩
  · intro X Y C D l i x ys hx hl
    have G' := G.wX (X := X) (Y := Y)
    obtain ⟨u, rfl⟩ := names1 hl
    obtain ⟨g, hgi, rfl⟩ : ∃ g, gaps[i]? = some g ∧ x = .int g := by
      rw [List.getElem?_map] at hx
      cases e : gaps[i]? with
      | none => rw [e] at hx; cases hx
      | some p => rw [e] at hx; exact ⟨p, rfl, (Option.some.inj hx).symm⟩
    obtain ⟨hg1, hg2⟩ := F.gp g (List.mem_of_getElem? hgi)
    refine As1_name ?_
    (refine St1_ns rfl (by first | rfl | with_unfolding_all rfl) (by first | rfl | with_unfolding_all rfl) At.head SetL.head ?_)
    refine ⟨rfl, _, rfl, rfl, ATs_nil ⟨rfl, fun _ => ?_, fun hh => by cases hh⟩⟩
    refine AE_binop ?_; refine AE_binop ?_; refine AE_str ?_; refine AE_binop ?_
    (refine AE_ns (by with_unfolding_all rfl) rfl (.head _) (.head _) (by with_unfolding_all rfl) ?_)
    refine AE_int ?_
    refine OpB_sub (OpB_rep (mulOk_sp (by omega) (by omega)) ?_)
    refine AE_cellE (ca := L + 1 + 1 + 1 + 1) (by with_unfolding_all rfl) (by rfl) (mi 3 rfl) (by with_unfolding_all rfl) ?_
    refine OpB_cat (by rw [mul_sp_len, sizeLine_eq]; omega) ⟨rfl, ?_⟩
    show (gaps[i]?).bind _ = _
    rw [hgi]; rfl
  · intro C l
    have e3 : ((List.range (List.map AV.int gaps).length).filterMap fun i => (gaps[i]?).bind fun g => some (AV.str (Txt.mul " " (g - 1) ++ z))) = (piecesOf gaps z).map AV.str := by
      rw [List.length_map, filterMap_map gaps fun g => AV.str (Txt.mul " " (g - 1) ++ z), piecesOf, List.map_map]; rfl
    rw [e3]
    (with_reducible refine St1_local (by assumption) (by with_reducible repeat first | exact SetL.head | apply SetL.tail) ?_)
    refine ⟨_, rfl, ?_⟩
    refine ASsP_cons (ASP_assign (AEP_replaceV (z := y) G ht0 htn ?_))
    refine AE_local (by assumption) (mi 13 rfl) ?_
    refine ⟨leadS, rfl, ?_, ?_⟩
    · rw [hyl]; omega
    refine AE_local (by assumption) (mi 5 rfl) ?_
    refine ⟨rfl, ?_⟩
    (with_reducible refine St1_local (by assumption) (by with_reducible repeat first | exact SetL.head | apply SetL.tail) ?_)
    refine ASsP_cons (ASP_assign (AEP_ifexpB plain (AB_plain ?_) (fun hb => ?_) (fun hb => ?_)))
    · refine AE_local (by assumption) (mi 2 rfl) ?_
      exact OpT_bool ⟨rfl, rfl⟩
    · refine AEP_callf 262 G (fun w => by kernel_rfl) ?_
      refine AE_global (by assumption) (fun w => by rfl) (by rfl) (fun B N => .ref _) ⟨rfl, ?_⟩
      refine AEs_cons ?_; refine AE_local (by assumption) (mi 19 rfl) ?_; refine AEs_nil ?_
      refine OpCallP_of G (escA_spec (k := k + 9) (by omega) htl ?_)
      have hw := F.wr
      rw [if_pos hb] at hw
      rw [hw]
      (with_reducible refine St1_local (by assumption) (by with_reducible repeat first | exact SetL.head | apply SetL.tail) ?_)
      refine ASsP_cons (AS.p (AS_if (AB_compare ?_)))
      refine AE_local (by assumption) (mi 20 rfl) ?_
      refine AE_methb "str.join" ?_
      refine AE_str ?_
      refine ⟨OpMeth_str fun t => GM.join, ?_⟩
      refine AEs_cons ?_; refine AE_local (by assumption) (mi 18 rfl) ?_; refine AEs_nil ?_
      refine OpCall_join_lst ?_ ?_
      · have : ("" : Str).length = 0 := rfl
        rw [this]; omega
      · refine OpC_sne ⟨_, rfl, fun hb => absurd hb (by simp [writ]), fun _ => ASs_nil ?_⟩
        exact hcont
    · refine AEP_callf 269 G (fun w => by kernel_rfl) ?_
      refine AE_global (by assumption) (fun w => by rfl) (by rfl) (fun B N => .ref _) ⟨rfl, ?_⟩
      refine AEs_cons ?_; refine AE_local (by assumption) (mi 19 rfl) ?_; refine AEs_nil ?_
      refine OpCallP_of G (escC_spec (k := k + 9) (by omega) htl ?_)
      have hw := F.wr
      rw [if_neg (by rw [hb]; decide)] at hw
      rw [hw]
      (with_reducible refine St1_local (by assumption) (by with_reducible repeat first | exact SetL.head | apply SetL.tail) ?_)
      refine ASsP_cons (AS.p (AS_if (AB_compare ?_)))
      refine AE_local (by assumption) (mi 20 rfl) ?_
      refine AE_methb "str.join" ?_
      refine AE_str ?_
      refine ⟨OpMeth_str fun t => GM.join, ?_⟩
      refine AEs_cons ?_; refine AE_local (by assumption) (mi 18 rfl) ?_; refine AEs_nil ?_
      refine OpCall_join_lst ?_ ?_
      · have : ("" : Str).length = 0 := rfl
        rw [this]; omega
      · refine OpC_sne ⟨_, rfl, fun hb => absurd hb (by simp [writ]), fun _ => ASs_nil ?_⟩
        exact hcont
end
section
noncomputable def ltSt (W : Int) (x : Str) (i : Nat) : FSt := (lets ((cs x).take i)).foldl (chunk W "; ") ⟨0, [], []⟩
theorem ltSt_succ {W : Int} {x : Str} {i n : Nat} (h : (cs x)[i]? = some n) : ltSt W x (i + 1) = chunk W "; " (ltSt W x i) ("", mkS [n]) := by
  unfold ltSt
  rw [List.take_add_one, h, lets_app, List.foldl_append]
  rfl
theorem ok_one {n : Nat} (h : n < 128) : PyData.strOk (mkS [n]) = true := by
  unfold PyData.strOk
  show [n].toArray.all _ = true
  simp; omega
theorem ltSt_ok {W : Int} {x : Str} (hx : ∀ n ∈ cs x, n < 128) : ∀ i, FOk (4 * i) (ltSt W x i)
  | 0 => ⟨fun p hp => by simp [ltSt, lets] at hp, by show (0 : Int) ≤ 0; omega, by show (0 : Int) ≤ 1000; omega, by simp [ltSt, lets, lsz, accLen]⟩
  | i + 1 => by
    have ih := ltSt_ok (W := W) hx i
    cases h : (cs x)[i]? with
    | none =>
      have e : ltSt W x (i + 1) = ltSt W x i := by
        unfold ltSt
        rw [List.take_add_one, h]; simp
      rw [e]
      exact ⟨ih.ok, ih.i0, ih.i1, by have := ih.sz; omega⟩
    | some n =>
      rw [ltSt_succ h]
      have := chunk_ok (m := 1) (mx := W) (sc := "; ") (p := ("", mkS [n])) ih (show PyData.strOk "" = true by decide +kernel) (ok_one (hx n (List.mem_of_getElem? h))) (by show 0 + 1 ≤ 1; omega)
      rw [show 4 * (i + 1) = 4 * i + 1 + 3 by omega]
      exact this
set_option maxHeartbeats 16000000 in
theorem lawC2 {k : Nat} {w : World} {os : OsState} {base : Heap} {outer : List Env} {A₀ A : Around} {h₀ : Heap} {L : Addr} {X Y : Led} {H : Own} {Q : SP} {n : Nat} {d : List Int} {ps : List Str} {wr : Str} {script plain marks head sign spare places first last near far gaps lead prs ct rd ab text wh nm tv stp siz : Option AV} :
    let c : Cx := lawCx w os base outer A₀ A h₀ L X Y
    c.Good (k + 10) → Tabs H → d.length = 5 → (∀ x ∈ d, 0 ≤ x ∧ x ≤ 1000000000) → 0 < ps.length → ps.length ≤ 1000 → (∀ p ∈ ps, p.length ≤ 1000) → wr.length ≤ 11000 → (∀ n ∈ cs wr, n < 128) →
    (∀ (M : Nat) (spread : Int) (mk ln ac : Addr) (lv : Option AV), (∀ p ∈ ps, p.length ≤ M) → (∃ p ∈ ps, p.length = M) → 0 ≤ spread → spread < 12 → ASsP n c c.env (lawF.body.drop 33)
        (Lc script (some (.lst (d.map AV.int))) plain marks head sign spare places first last near far gaps lead prs ct rd ab (some (.lst (ps.map AV.str))) text (some (.str wr)) (some (.int spread)) (some (.int (M + spread))) (some (.ref mk)) lv none none none)
        (FmtS mk ln ac "; " (M + spread) (ltSt (M + spread) wr wr.length) (Hc L wh nm tv stp siz H)) Q) →
    ASsP n c c.env (lawF.body.drop 29)
      (Lc script (some (.lst (d.map AV.int))) plain marks head sign spare places first last near far gaps lead prs ct rd ab (some (.lst (ps.map AV.str))) text (some (.str wr)) none none none none none none none) (Hc L wh nm tv stp siz H) Q := by
  intro c G TB hd5 hdb hp0 hp1 hpl hwl hw128 hcont
  obtain ⟨d0, d1, d2, d3, d4, rfl⟩ := ln5 hd5
  obtain ⟨b4, b4'⟩ := hdb d4 (by simp)
  dsimp only [lawF, List.drop_succ_cons, List.drop_zero]
  refine ASsP_cons (AS.p (AS_assign ?_))
  refine AE_binop ?_; refine AE_binop ?_; refine AE_subg ?_; refine AE_local (by assumption) (mi 1 rfl) ?_; refine AE_int ?_
  refine ⟨NoPy_lst, OpG_lst (by decide) (by decide) (by rfl) ?_⟩
  refine AE_int ?_
  refine OpB_div (by decide) (noPy (by omega)) ?_
  refine AE_int ?_
  refine OpB_mod (by decide) ?_
  have e6a : 0 ≤ (d4.fdiv 3).fmod 12 := Int.fmod_nonneg (Int.fdiv_nonneg b4 (by decide)) (by decide)
  have e6b : (d4.fdiv 3).fmod 12 < 12 := Int.fmod_lt_of_pos _ (by decide)
  generalize hspread : (d4.fdiv 3).fmod 12 = spread at e6a e6b ⊢
  (with_reducible refine St1_local (by assumption) (by with_reducible repeat first | exact SetL.head | apply SetL.tail) ?_)
  refine ASsP_cons (AS.p (AS_assign ?_))
  refine AE_binop ?_
  refine AE_callb "max" ?_
  with_reducible refine AE_builtin (by assumption) (fun _ => by with_unfolding_all rfl) (by with_unfolding_all rfl) (by decide) (by with_unfolding_all rfl) ?_
  refine ⟨rfl, ?_⟩
  refine AEs_cons (AE_listcomp (cl := []) G ["piece"] (closure_of (by rfl)) ?_)
  refine AE_local (by assumption) (mi 18 rfl) ?_
  refine ⟨ps.map AV.str, fun i => (ps[i]?).bind fun p => some (.int p.length), It_lst, by rw [List.length_map]; omega, ?_, ?_⟩
  · intro X Y C D l i x ys hx hl
    have G' := G.wX (X := X) (Y := Y)
    obtain ⟨u, rfl⟩ := names1 hl
    obtain ⟨p, hpi, rfl⟩ : ∃ p, ps[i]? = some p ∧ x = .str p := by
      rw [List.getElem?_map] at hx
      cases e : ps[i]? with
      | none => rw [e] at hx; cases hx
      | some p => rw [e] at hx; exact ⟨p, rfl, (Option.some.inj hx).symm⟩
    have hpl1 := hpl p (List.mem_of_getElem? hpi)
    refine As1_name ?_
    (refine St1_ns rfl (by first | rfl | with_unfolding_all rfl) (by first | rfl | with_unfolding_all rfl) At.head SetL.head ?_)
    refine ⟨rfl, _, rfl, rfl, ATs_nil ⟨rfl, fun _ => ?_, fun hh => by cases hh⟩⟩
    refine AE_callb "len" ?_
    refine AE_builtinE G' ⟨by with_unfolding_all rfl, by with_unfolding_all rfl, by with_unfolding_all rfl⟩ (fun _ => by with_unfolding_all rfl) (by with_unfolding_all rfl) (by decide) (by with_unfolding_all rfl) ?_
    refine ⟨rfl, AEs_cons ?_⟩
    (refine AE_ns (by with_unfolding_all rfl) rfl (.head _) (.head _) (by with_unfolding_all rfl) ?_)
    refine AEs_nil ?_
    refine OpCall_len_str (by omega) ⟨rfl, ?_⟩
    show (ps[i]?).bind _ = _
    rw [hpi]; rfl
  · have e3 : ((List.range (List.map AV.str ps).length).filterMap fun i => (ps[i]?).bind fun p => some (AV.int p.length)) = (ps.map fun p => ((p.length : Nat) : Int)).map AV.int := by
      rw [List.length_map, filterMap_map ps fun p => AV.int p.length, List.map_map]; rfl
    rw [e3]
    refine AEs_nil ?_
    refine OpCall_max_lst G (by rw [List.length_map]; exact hp0) fun M hM1 hM2 => ?_
    obtain ⟨pm, hpm, rfl⟩ := List.mem_map.mp hM1
    have hmx : ∀ p ∈ ps, p.length ≤ pm.length := fun p hp => by
      have := hM2 _ (List.mem_map.mpr ⟨p, hp, rfl⟩)
      omega
    have hM := hpl pm hpm
    have hex : ∃ p ∈ ps, p.length = pm.length := ⟨pm, hpm, rfl⟩
    generalize pm.length = M at hmx hM hex
    refine AE_local (by assumption) (mi 21 rfl) ?_
    refine OpB_add ?_
    (with_reducible refine St1_local (by assumption) (by with_reducible repeat first | exact SetL.head | apply SetL.tail) ?_)
    refine ASsP_cons (AS.p (AS_assign (AE_callf 94 G (fun w => by kernel_rfl) ?_)))
    refine AE_global (by assumption) (fun w => by rfl) (by rfl) (fun B N => .ref _) ⟨rfl, ?_⟩
    refine AEs_cons ?_; refine AE_int ?_; refine AEs_cons ?_; refine AE_local (by assumption) (mi 22 rfl) ?_; refine AEs_cons ?_; refine AE_str ?_; refine AEs_cons ?_; refine AE_str ?_; refine AEs_nil ?_
    refine OpCall_newinst (k := k + 9) (C := 94) (fI := 35) G (fun w => by kernel_rfl) (fun w => by kernel_rfl) (fun w => by kernel_rfl) fun mk => finit_spec (k := k + 6) fun ln ac => ⟨rfl, ?_⟩
    (with_reducible refine St1_local (by assumption) (by with_reducible repeat first | exact SetL.head | apply SetL.tail) ?_)
    have hok : ∀ i, FOk (4 * i) (ltSt (M + spread) wr i) := ltSt_ok hw128
    have TB' : Tabs (Hc L wh nm tv stp siz H) := TB.cons.cons.cons.cons.cons
    refine ASsP_cut (fun l H1 => ∃ lv, l = Lc script (some (.lst ([d0, d1, d2, d3, d4].map AV.int))) plain marks head sign spare places first last near far gaps lead prs ct rd ab (some (.lst (ps.map AV.str))) text (some (.str wr)) (some (.int spread)) (some (.int (M + spread))) (some (.ref mk)) lv none none none ∧
      H1 = FmtS mk ln ac "; " (M + spread) (ltSt (M + spread) wr wr.length) (Hc L wh nm tv stp siz H)) (AS.p (AS_for G ?_)) ?_
    · refine AE_local (by assumption) (mi 20 rfl) ?_
      refine ⟨signs wr, It_str, fun i l H1 => ∃ lv, l = Lc script (some (.lst ([d0, d1, d2, d3, d4].map AV.int))) plain marks head sign spare places first last near far gaps lead prs ct rd ab (some (.lst (ps.map AV.str))) text (some (.str wr)) (some (.int spread)) (some (.int (M + spread))) (some (.ref mk)) lv none none none ∧
        H1 = FmtS mk ln ac "; " (M + spread) (ltSt (M + spread) wr i) (Hc L wh nm tv stp siz H), ⟨none, rfl, rfl⟩, ?_, ?_⟩
      · rintro X Y i x l H1 hx ⟨lv, rfl, rfl⟩
        have G' := G.wX (X := X) (Y := Y)
        obtain ⟨a, hai, rfl⟩ : ∃ a, (cs wr)[i]? = some a ∧ x = .str ⟨#[a]⟩ := by
          unfold signs at hx
          rw [List.getElem?_map] at hx
          cases e : (wr.cps.toList)[i]? with
          | none => rw [e] at hx; cases hx
          | some p => rw [e] at hx; exact ⟨p, rfl, (Option.some.inj hx).symm⟩
        have hil : i < wr.length := by
          have := (List.getElem?_eq_some_iff.mp hai).1
          rw [cs_len] at this; exact this
        have hs1 := (hok i).sz
        refine As1_name ?_
        (with_reducible refine St1_local (by assumption) (by with_reducible repeat first | exact SetL.head | apply SetL.tail) ?_)
        refine ASs_cons (AS_expr (AE_methf 91 G' (fun w => by kernel_rfl) ?_))
        refine AE_local (by assumption) (mi 23 rfl) ?_
        refine ⟨OpMeth_inst (name := "_append_chunk") G' (C := 94) (fs := FmtF "" "; " (M + spread) ln ac) (mi 2 rfl) (fun w => by kernel_rfl) (fun w => by kernel_rfl) (fun w => by kernel_rfl) (by simp [fget]), ?_⟩
        refine AEs_cons ?_; refine AE_str ?_; refine AEs_cons ?_; refine AE_local (by assumption) (mi 24 rfl) ?_; refine AEs_nil ?_
        refine OpCall_of G' (chunk_spec (k := k + 4) (p := ("", ⟨#[a]⟩)) (st := ltSt (M + spread) wr i) TB' ((hok i).bound (by omega)) ?_ (by decide) ?_)
        · have e1 : ("" : Str).length = 0 := rfl
          have e2 : (⟨#[a]⟩ : Str).length = 1 := rfl
          rw [accLen_snoc, List.length_append, e1, e2]; simp only [List.length_cons, List.length_nil]; omega
        refine ASs_nil ⟨_, rfl, ?_⟩
        rw [ltSt_succ hai]; rfl
      · rintro l H1 ⟨lv, rfl, rfl⟩
        refine ASs_nil ⟨rfl, lv, rfl, ?_⟩
        have e : (signs wr).length = wr.length := by unfold signs; rw [List.length_map]; exact cs_len wr
        rw [e]
    · rintro l H1 ⟨lv, rfl, rfl⟩
      exact hcont M spread mk ln ac lv hmx hex e6a e6b
end
section
set_option maxHeartbeats 16000000 in
theorem lawC3 {k : Nat} {w : World} {os : OsState} {base : Heap} {outer : List Env} {A₀ A : Around} {h₀ : Heap} {L : Addr} {X Y : Led} {H : Own} {Q : SP} {n : Nat} {W spread : Int} {B : Nat} {mk ln ac : Addr} {lv : Option AV} {st : FSt} {ps rs : List Str} {wr z : Str} {semi : Bool} {script drawn plain marks head sign spare places first last near far gaps lead prs ct rd ab text wh tv stp siz : Option AV} :
    let c : Cx := lawCx w os base outer A₀ A h₀ L X Y
    c.Good (k + 10) → 1 ≤ n → Tabs H → z.length ≠ 0 → decide (Txt.item z (-1) = ";") = semi → wr.length ≤ 11000 → rs = (if semi = true then ps else Txt.split (Txt.replace wr " " " |") "|") →
    (rs.map (·.length)).sum + rs.length ≤ 100000 → (∀ p ∈ rs, p.length ≠ 0) → FOk B st → B ≤ 60000 → nlLines st.ini st.parts st.lines = (rfold W (if semi = true then ";" else " ") rs 0).rows →
    (ASsP n c c.env (lawF.body.drop 35)
        (Lc script drawn plain marks head sign spare places first last near far gaps lead prs ct rd ab (some (.lst (ps.map AV.str))) text (some (.str wr)) (some (.int spread)) (some (.int W)) (some (.ref mk)) lv (some (.lst (rs.map AV.str))) none none) (Hc L wh (some (.str z)) tv stp siz H) Q) →
    ASsP n c c.env (lawF.body.drop 33)
      (Lc script drawn plain marks head sign spare places first last near far gaps lead prs ct rd ab (some (.lst (ps.map AV.str))) text (some (.str wr)) (some (.int spread)) (some (.int W)) (some (.ref mk)) lv none none none) (FmtS mk ln ac "; " W st (Hc L wh (some (.str z)) tv stp siz H)) Q := by
  intro c G hn TB hz0 hsm hwl hrs hr1 hr2 hok hB hrows hcont
  have hcN : c.cells.lookup (Str.ofString "name") = some (L + 1 + 1 + 1 + 1) := by rfl
  have hkN : c.scope.names.lookup (Str.ofString "name") = some .cell := by rfl
  have TB' : Tabs (Hc L wh (some (.str z)) tv stp siz H) := TB.cons.cons.cons.cons.cons
  dsimp only [lawF, List.drop_succ_cons, List.drop_zero]
  have hrest : ASsP n c c.env (lawF.body.drop 34) (Lc script drawn plain marks head sign spare places first last near far gaps lead prs ct rd ab (some (.lst (ps.map AV.str))) text (some (.str wr)) (some (.int spread)) (some (.int W)) (some (.ref mk)) lv (some (.lst (rs.map AV.str))) none none) (FmtS mk ln ac "; " W st (Hc L wh (some (.str z)) tv stp siz H)) Q := by
    dsimp only [lawF, List.drop_succ_cons, List.drop_zero]
    refine ASsP_cons (AS.p (AS_if (AB_compare ?_)))
    refine AE_methf 42 G (fun w => by kernel_rfl) ?_
    refine AE_local (by assumption) (mi 23 rfl) ?_
    refine ⟨OpMeth_inst (name := "_str") G (C := 94) (fs := FmtF "" "; " W ln ac) (mi 2 rfl) (fun w => by kernel_rfl) (fun w => by kernel_rfl) (fun w => by kernel_rfl) (by simp [fget]), ?_⟩
    refine AEs_cons ?_; refine AE_str ?_; refine AEs_nil ?_
    have hsz := nlLines_sz st.ini st.parts st.lines
    have hs1 := hok.sz
    refine OpCall_of G (fstr_spec (k := k + 4) TB' (hok.bound (by omega)) ?_ ?_)
    · unfold lsz at hsz hs1
      have : ("|" : Str).length = 1 := rfl
      rw [this]; omega
    rw [hrows]
    refine AE_callf 314 G (fun w => by kernel_rfl) ?_
    refine AE_global (by assumption) (fun w => by rfl) (by rfl) (fun B N => .ref _) ⟨rfl, ?_⟩
    refine AEs_cons ?_; refine AE_local (by assumption) (mi 25 rfl) ?_; refine AEs_cons ?_; refine AE_int ?_; refine AEs_cons ?_; refine AE_local (by assumption) (mi 22 rfl) ?_
    refine AEs_cons (AE_ifstr semi (AB_compare ?_) ?_)
    · refine AE_subg ?_
      refine AE_cell G hcN (mi 4 rfl) hkN ?_
      refine AE_unary ?_
      refine AE_int ?_
      refine OpU_neg ⟨NoPy_str, OpG_str (by decide) (charAtL hz0) ?_⟩
      refine AE_str ?_
      exact OpC_seq ⟨_, rfl, hsm, rfl⟩
    refine AEs_nil ?_
    refine OpCall_of G (rows_spec (k := k + 9) hr1 hr2 ?_)
    refine OpC_sne ⟨_, rfl, fun hb => absurd hb (by simp), fun _ => ASs_nil ?_⟩
    exact ASsP_weak (.cons _ (.cons _ (.cons _ (List.Sublist.refl _)))) hcont
  refine ASsP_cons (ASP_assign (AEP_ifexpB semi (AB_compare ?_) (fun hb => ?_) (fun hb => ?_)))
  · refine AE_subg ?_
    refine AE_cell G hcN (mi 4 rfl) hkN ?_
    refine AE_unary ?_
    refine AE_int ?_
    refine OpU_neg ⟨NoPy_str, OpG_str (by decide) (charAtL hz0) ?_⟩
    refine AE_str ?_
    exact OpC_seq ⟨_, rfl, hsm, rfl⟩
  · refine AE.p ?_
    refine AE_local (by assumption) (mi 18 rfl) ?_
    (with_reducible refine St1_local (by assumption) (by with_reducible repeat first | exact SetL.head | apply SetL.tail) ?_)
    rw [if_pos hb] at hrs
    rw [hrs] at hrest
    exact hrest
  · rw [if_neg (by rw [hb]; decide)] at hrs
    refine AEP_methb "str.split" (AEP_replace (y := " ") (z := " |") G hn ?_)
    refine AE_local (by assumption) (mi 20 rfl) ?_
    refine ⟨wr, rfl, ?_, OpMeth_str fun t => GM.split, ?_⟩
    · have : (" |" : Str).length = 2 := rfl
      rw [this]; omega
    refine AEs_cons ?_; refine AE_str ?_; refine AEs_nil ?_
    refine OpCall_split (by decide) ?_ ?_
    · have h1 := replace_len wr " " " |"
      have : (" |" : Str).length = 2 := rfl
      rw [this] at h1; omega
    rw [← hrs]
    (with_reducible refine St1_local (by assumption) (by with_reducible repeat first | exact SetL.head | apply SetL.tail) ?_)
    exact hrest
end
section
noncomputable def otSt (W head : Int) (wt : Str) (ps : List Str) (i : Nat) : FSt := (both wt (ps.take i)).foldl (chunk W "; ") ⟨head, [], []⟩
theorem otSt_succ {W head : Int} {wt : Str} {ps : List Str} {i : Nat} {p : Str} (h : ps[i]? = some p) : otSt W head wt ps (i + 1) = chunk W "; " (chunk W "; " (otSt W head wt ps i) (wt, p)) nul := by
  unfold otSt both
  rw [List.take_add_one, h, List.flatMap_append, List.foldl_append]
  rfl
theorem otSt_ok {W head : Int} {wt : Str} {ps : List Str} (h0 : 0 ≤ head) (h1 : head ≤ 100) (hw : PyData.strOk wt = true) (hwl : wt.length ≤ 2) (hp : ∀ p ∈ ps, p.length ≤ 110 ∧ PyData.strOk p = true) : ∀ i, FOk (120 * i) (otSt W head wt ps i)
  | 0 => ⟨fun p hp => by simp [otSt, both] at hp, h0, by show head ≤ 1000; omega, by simp [otSt, both, lsz, accLen]⟩
  | i + 1 => by
    have ih := otSt_ok (W := W) h0 h1 hw hwl hp i
    cases h : ps[i]? with
    | none =>
      have e : otSt W head wt ps (i + 1) = otSt W head wt ps i := by
        unfold otSt
        rw [List.take_add_one, h]; simp
      rw [e]
      exact ⟨ih.ok, ih.i0, ih.i1, by have := ih.sz; omega⟩
    | some p =>
      rw [otSt_succ h]
      obtain ⟨q1, q2⟩ := hp p (List.mem_of_getElem? h)
      have a1 := chunk_ok (m := 112) (mx := W) (sc := "; ") (p := (wt, p)) ih hw q2 (by dsimp only; omega)
      have a2 := chunk_ok (m := 0) (mx := W) (sc := "; ") (p := nul) a1 (by decide +kernel) (by decide +kernel) (by decide)
      exact ⟨a2.ok, a2.i0, a2.i1, by have := a2.sz; omega⟩
noncomputable def whD (plain : Bool) : Str := if plain = true then "" else "\t "
set_option maxHeartbeats 16000000 in
theorem lawD {k : Nat} {w : World} {os : OsState} {base : Heap} {outer : List Env} {A₀ A : Around} {h₀ : Heap} {L : Addr} {X Y : Led} {H : Own} {Q : SP} {n : Nat} {head spread : Int} {ps : List Str} {plain : Bool} {script drawn marks sign spare places first last near far gaps lead prs ct rd ab text wr width maker lv runs nm tv stp siz : Option AV} :
    let c : Cx := lawCx w os base outer A₀ A h₀ L X Y
    c.Good (k + 10) → Tabs H → 0 ≤ head → head ≤ 100 → 0 ≤ spread → spread ≤ 100 → ps.length ≤ 100 → (∀ p ∈ ps, p.length ≤ 110 ∧ PyData.strOk p = true) → (∀ p ∈ ps, p.length ≠ 0) →
    nlLines (otSt (head + spread) head (whD plain) ps ps.length).ini (otSt (head + spread) head (whD plain) ps ps.length).parts (otSt (head + spread) head (whD plain) ps ps.length).lines = (rfold (head + spread) ";" (ps.map fun p => whD plain ++ p) head).rows →
    (∀ l, Q (.ret (.bool true)) l H) →
    ASsP n c c.env (lawF.body.drop 35)
      (Lc script drawn (some (.bool plain)) marks (some (.int head)) sign spare places first last near far gaps lead prs ct rd ab (some (.lst (ps.map AV.str))) text wr (some (.int spread)) width maker lv runs none none) (Hc L none nm tv stp siz H) Q := by
  intro c G TB h0 h1 hs0 hs1 hpl hps hpn hrows hQ
  have hcW : c.cells.lookup (Str.ofString "white") = some (L + 1 + 1 + 1 + 1 + 1) := by rfl
  have hkW : c.scope.names.lookup (Str.ofString "white") = some .cell := by rfl
  dsimp only [lawF, List.drop_succ_cons, List.drop_zero]
  refine ASsP_cons (AS.p (AS_assign (AE_ifstr plain (AB_plain ?_) ?_)))
  · refine AE_local (by assumption) (mi 2 rfl) ?_
    exact OpT_bool ⟨rfl, rfl⟩
  refine St1_cell G hcW hkW (by with_reducible repeat first | exact At.head | apply At.tail) ?_
  have hwk : PyData.strOk (whD plain) = true := by cases plain <;> decide +kernel
  have hwl : (whD plain).length ≤ 2 := by cases plain <;> decide
  show ASsP n c c.env _ _ (Hc L (some (.str (whD plain))) nm tv stp siz H) Q
  generalize whD plain = wt at hwk hwl hrows ⊢
  have TB' : Tabs (Hc L (some (.str wt)) nm tv stp siz H) := TB.cons.cons.cons.cons.cons
  refine ASsP_cons (AS.p (AS_assign (AE_callf 94 G (fun w => by kernel_rfl) ?_)))
  refine AE_global (by assumption) (fun w => by rfl) (by rfl) (fun B N => .ref _) ⟨rfl, ?_⟩
  refine AEs_cons ?_; refine AE_local (by assumption) (mi 4 rfl) ?_; refine AEs_cons ?_; refine AE_binop ?_; refine AE_local (by assumption) (mi 4 rfl) ?_; refine AE_local (by assumption) (mi 21 rfl) ?_
  refine OpB_add ?_
  refine AEs_cons ?_; refine AE_str ?_; refine AEs_cons ?_; refine AE_str ?_; refine AEs_nil ?_
  refine OpCall_newinst (k := k + 9) (C := 94) (fI := 35) G (fun w => by kernel_rfl) (fun w => by kernel_rfl) (fun w => by kernel_rfl) fun mk => finit_spec (k := k + 6) fun ln ac => ⟨rfl, ?_⟩
  (with_reducible refine St1_local (by assumption) (by with_reducible repeat first | exact SetL.head | apply SetL.tail) ?_)
  have hok : ∀ i, FOk (120 * i) (otSt (head + spread) head wt ps i) := otSt_ok h0 h1 hwk hwl hps
  refine ASsP_cut (fun l H1 => ∃ pv, l = Lc script drawn (some (.bool plain)) marks (some (.int head)) sign spare places first last near far gaps lead prs ct rd ab (some (.lst (ps.map AV.str))) text wr (some (.int spread)) width maker lv runs (some (.ref mk)) pv ∧
      H1 = FmtS mk ln ac "; " (head + spread) (otSt (head + spread) head wt ps ps.length) (Hc L (some (.str wt)) nm tv stp siz H)) (AS.p (AS_for G ?_)) ?_
  · refine AE_local (by assumption) (mi 18 rfl) ?_
    refine ⟨_, It_lst, fun i l H1 => ∃ pv, l = Lc script drawn (some (.bool plain)) marks (some (.int head)) sign spare places first last near far gaps lead prs ct rd ab (some (.lst (ps.map AV.str))) text wr (some (.int spread)) width maker lv runs (some (.ref mk)) pv ∧
      H1 = FmtS mk ln ac "; " (head + spread) (otSt (head + spread) head wt ps i) (Hc L (some (.str wt)) nm tv stp siz H), ⟨none, rfl, rfl⟩, ?_, ?_⟩
    · rintro X Y i x l H1 hx ⟨pv, rfl, rfl⟩
      have G' := G.wX (X := X) (Y := Y)
      obtain ⟨p, hpi, rfl⟩ : ∃ p, ps[i]? = some p ∧ x = .str p := by
        rw [List.getElem?_map] at hx
        cases e : ps[i]? with
        | none => rw [e] at hx; cases hx
        | some p => rw [e] at hx; exact ⟨p, rfl, (Option.some.inj hx).symm⟩
      obtain ⟨hp1, hp2⟩ := hps p (List.mem_of_getElem? hpi)
      have hil : i < ps.length := (List.getElem?_eq_some_iff.mp hpi).1
      have hok1 := chunk_ok (m := 112) (mx := head + spread) (sc := "; ") (p := (wt, p)) (hok i) hwk hp2 (by dsimp only; omega)
      have hs1 := (hok i).sz
      have hs2 := hok1.sz
      refine As1_name ?_
      (with_reducible refine St1_local (by assumption) (by with_reducible repeat first | exact SetL.head | apply SetL.tail) ?_)
      refine ASs_cons (AS_expr (AE_methf 91 G' (fun w => by kernel_rfl) ?_))
      refine AE_local (by assumption) (mi 26 rfl) ?_
      refine ⟨OpMeth_inst (name := "_append_chunk") G' (C := 94) (fs := FmtF "" "; " (head + spread) ln ac) (mi 2 rfl) (fun w => by kernel_rfl) (fun w => by kernel_rfl) (fun w => by kernel_rfl) (by simp [fget]), ?_⟩
      refine AEs_cons ?_
      refine AE_cell G' hcW (mi 3 rfl) hkW ?_
      refine AEs_cons ?_; refine AE_local (by assumption) (mi 27 rfl) ?_; refine AEs_nil ?_
      refine OpCall_of G' (chunk_spec (k := k + 4) (p := (wt, p)) (st := otSt (head + spread) head wt ps i) TB' ((hok i).bound (by omega)) ?_ (by decide) ?_)
      · rw [accLen_snoc, List.length_append]; simp only [List.length_cons, List.length_nil]; omega
      refine ASs_cons (AS_expr (AE_methf 91 G' (fun w => by kernel_rfl) ?_))
      refine AE_local (by assumption) (mi 26 rfl) ?_
      refine ⟨OpMeth_inst (name := "_append_chunk") G' (C := 94) (fs := FmtF "" "; " (head + spread) ln ac) (mi 2 rfl) (fun w => by kernel_rfl) (fun w => by kernel_rfl) (fun w => by kernel_rfl) (by simp [fget]), ?_⟩
      refine AEs_cons ?_; refine AE_str ?_; refine AEs_cons ?_; refine AE_str ?_; refine AEs_nil ?_
      refine OpCall_of G' (chunk_spec (k := k + 4) (p := nul) (st := chunk (head + spread) "; " (otSt (head + spread) head wt ps i) (wt, p)) TB' (hok1.bound (by omega)) ?_ (by decide) ?_)
      · have e1 : ("" : Str).length = 0 := rfl
        rw [accLen_snoc, List.length_append, e1]; simp only [List.length_cons, List.length_nil]; omega
      refine ASs_nil ⟨some (.str p), rfl, ?_⟩
      rw [otSt_succ hpi]
    · rintro l H1 ⟨pv, rfl, rfl⟩
      refine ASs_nil ⟨rfl, pv, rfl, ?_⟩
      rw [List.length_map]
  · rintro l H1 ⟨pv, rfl, rfl⟩
    refine ASs.p (ASs_cons (AS_return (AE_weak (AE_compare ?_))))
    refine AE_methf 42 G (fun w => by kernel_rfl) ?_
    refine AE_local (by assumption) (mi 26 rfl) ?_
    refine ⟨OpMeth_inst (name := "_str") G (C := 94) (fs := FmtF "" "; " (head + spread) ln ac) (mi 2 rfl) (fun w => by kernel_rfl) (fun w => by kernel_rfl) (fun w => by kernel_rfl) (by simp [fget]), ?_⟩
    refine AEs_cons ?_; refine AE_str ?_; refine AEs_nil ?_
    have hokl := hok ps.length
    generalize otSt (head + spread) head wt ps ps.length = st at hokl hrows ⊢
    have hsz := nlLines_sz st.ini st.parts st.lines
    have hs1 := hokl.sz
    refine OpCall_of G (fstr_spec (k := k + 4) TB' (hokl.bound (by omega)) ?_ ?_)
    · unfold lsz at hsz hs1
      have : ("|" : Str).length = 1 := rfl
      rw [this]; omega
    rw [hrows]
    refine AE_callf 314 G (fun w => by kernel_rfl) ?_
    refine AE_global (by assumption) (fun w => by rfl) (by rfl) (fun B N => .ref _) ⟨rfl, ?_⟩
    refine AEs_cons (AE_listcomp (cl := [(Str.ofString "white", L + 1 + 1 + 1 + 1 + 1)]) G ["piece"] (closure_of (by rfl)) ?_)
    refine AE_local (by assumption) (mi 18 rfl) ?_
    refine ⟨ps.map AV.str, fun i => (ps[i]?).bind fun p => some (.str (wt ++ p)), It_lst, by rw [List.length_map]; omega, ?_, ?_⟩
    · intro X Y C D l i x ys hx hl
      have G' := G.wX (X := X) (Y := Y)
      obtain ⟨u, rfl⟩ := names1 hl
      obtain ⟨p, hpi, rfl⟩ : ∃ p, ps[i]? = some p ∧ x = .str p := by
        rw [List.getElem?_map] at hx
        cases e : ps[i]? with
        | none => rw [e] at hx; cases hx
        | some p => rw [e] at hx; exact ⟨p, rfl, (Option.some.inj hx).symm⟩
      obtain ⟨hp1, hp2⟩ := hps p (List.mem_of_getElem? hpi)
      refine As1_name ?_
      (refine St1_ns rfl (by first | rfl | with_unfolding_all rfl) (by first | rfl | with_unfolding_all rfl) At.head SetL.head ?_)
      refine ⟨rfl, _, rfl, rfl, ATs_nil ⟨rfl, fun _ => ?_, fun hh => by cases hh⟩⟩
      refine AE_binop ?_
      refine AE_cellE (ca := L + 1 + 1 + 1 + 1 + 1) (by with_unfolding_all rfl) (by rfl) (mi 5 rfl) (by with_unfolding_all rfl) ?_
      (refine AE_ns (by with_unfolding_all rfl) rfl (.head _) (.head _) (by with_unfolding_all rfl) ?_)
      refine OpB_cat (by rw [sizeLine_eq]; omega) ⟨rfl, ?_⟩
      show (ps[i]?).bind _ = _
      rw [hpi]; rfl
    · have e3 : ((List.range (List.map AV.str ps).length).filterMap fun i => (ps[i]?).bind fun p => some (AV.str (wt ++ p))) = (ps.map fun p => wt ++ p).map AV.str := by
        rw [List.length_map, filterMap_map ps fun p => AV.str (wt ++ p), List.map_map]; rfl
      rw [e3]
      refine AEs_cons ?_; refine AE_local (by assumption) (mi 4 rfl) ?_; refine AEs_cons ?_; refine AE_binop ?_; refine AE_local (by assumption) (mi 4 rfl) ?_; refine AE_local (by assumption) (mi 21 rfl) ?_
      refine OpB_add ?_
      refine AEs_cons ?_; refine AE_str ?_; refine AEs_nil ?_
      refine OpCall_of G (rows_spec (k := k + 9) (parts := ps.map fun p => wt ++ p) ?_ ?_ ?_)
      · have hb := sum_le_of (l := (ps.map fun p => wt ++ p).map (·.length)) (b := 112) fun x hx => by
          rw [List.map_map] at hx
          obtain ⟨p, hp, rfl⟩ := List.mem_map.mp hx
          obtain ⟨hp1, _⟩ := hps p hp
          show (wt ++ p).length ≤ 112
          rw [slen_app]; omega
        rw [List.length_map, List.length_map] at hb
        rw [List.length_map]; omega
      · intro p hp
        obtain ⟨q, hq, rfl⟩ := List.mem_map.mp hp
        have := hpn q hq
        rw [slen_app]; omega
      refine OpC_seq ⟨H, ?_, ?_⟩
      · exact .cons _ (.cons _ (.cons _ (.cons _ (.cons _ (.cons _ (.cons _ (.cons _ (List.Sublist.refl _))))))))
      · rw [decide_eq_true rfl]
        exact hQ _
end
section
noncomputable def sub1 (c : Nat) (z : Str) (a : Nat) : List Nat := if a = c then cs z else [a]
theorem rep1_eq (c : Nat) (z x : Str) : rep1 ⟨#[c]⟩ z x = mkS ((cs x).flatMap (sub1 c z)) := by
  unfold rep1
  split
  · exact replace_eq x z c
  · rename_i h
    have hc : c ∉ cs x := fun hm => h (by
      unfold Txt.contains
      rw [StrLaws.found_one]
      exact decide_eq_true hm)
    have e : (cs x).flatMap (sub1 c z) = cs x := flat_none hc
    rw [e, mk_cs]
noncomputable def eA (a : Nat) : List Nat := (((((((sub1 38 "&amp;" a).flatMap (sub1 60 "&lt;")).flatMap (sub1 62 "&gt;")).flatMap (sub1 34 "&quot;")).flatMap (sub1 13 "&#13;")).flatMap (sub1 10 "&#10;")).flatMap (sub1 9 "&#09;"))
noncomputable def eC (a : Nat) : List Nat := ((((((sub1 38 "&amp;" a).flatMap (sub1 60 "&lt;")).flatMap (sub1 34 "&quot;")).flatMap (sub1 9 "&#x9;")).flatMap (sub1 10 "&#xA;")).flatMap (sub1 13 "&#xD;"))
theorem escA_eq (x : Str) : escA x = mkS ((cs x).flatMap eA) := by
  unfold escA
  rw [show ("\t" : Str) = ⟨#[9]⟩ from rfl, show ("\n" : Str) = ⟨#[10]⟩ from rfl, show ("\r" : Str) = ⟨#[13]⟩ from rfl, show ("\"" : Str) = ⟨#[34]⟩ from rfl, show (">" : Str) = ⟨#[62]⟩ from rfl, show ("<" : Str) = ⟨#[60]⟩ from rfl, show ("&" : Str) = ⟨#[38]⟩ from rfl]
  rw [rep1_eq, rep1_eq, rep1_eq, rep1_eq, rep1_eq, rep1_eq, rep1_eq]
  simp only [cs_mk, List.flatMap_assoc]
  congr 1
  refine congrArg (fun f => List.flatMap f (cs x)) (funext fun a => ?_)
  unfold eA
  simp only [List.flatMap_assoc]
theorem escC_eq (x : Str) : escC x = mkS ((cs x).flatMap eC) := by
  unfold escC
  rw [show ("\t" : Str) = ⟨#[9]⟩ from rfl, show ("\n" : Str) = ⟨#[10]⟩ from rfl, show ("\r" : Str) = ⟨#[13]⟩ from rfl, show ("\"" : Str) = ⟨#[34]⟩ from rfl, show ("<" : Str) = ⟨#[60]⟩ from rfl, show ("&" : Str) = ⟨#[38]⟩ from rfl]
  rw [rep1_eq, rep1_eq, rep1_eq, rep1_eq, rep1_eq, rep1_eq]
  simp only [cs_mk, List.flatMap_assoc]
  congr 1
  refine congrArg (fun f => List.flatMap f (cs x)) (funext fun a => ?_)
  unfold eC
  simp only [List.flatMap_assoc]
noncomputable def zOf (plain : Bool) (yc : Nat) : Str :=
  if yc = 9 then (if plain = true then "&#09;" else "&#x9;") else if yc = 10 then (if plain = true then "&#10;" else "&#xA;") else if yc = 13 then (if plain = true then "&#13;" else "&#xD;") else
  if yc = 38 then "&amp;" else if yc = 60 then "&lt;" else if yc = 62 then (if plain = true then "&gt;" else ">") else "&quot;"
structure ZF (plain : Bool) (yc : Nat) (z : Str) : Prop where
  nm : dAt (if plain = true then namesA else namesC) (mkS [yc]) = some (.str z)
  z1 : 1 ≤ z.length
  z2 : z.length ≤ 6
  e : (if plain = true then eA yc else eC yc) = cs z
  lim : ∀ a ∈ cs z, a < 128 ∧ a ≠ 9 ∧ a ≠ 124 ∧ a ≠ 32
  tail : (∃ zi, cs z = zi ++ [59] ∧ 59 ∉ zi) ∨ (plain = false ∧ cs z = [62])
theorem zfacts (plain : Bool) {yc : Nat} (h : yc = 9 ∨ yc = 10 ∨ yc = 13 ∨ yc = 38 ∨ yc = 60 ∨ yc = 62 ∨ yc = 34) : ZF plain yc (zOf plain yc) := by
  rcases h with rfl | rfl | rfl | rfl | rfl | rfl | rfl
  all_goals cases plain
  all_goals refine ⟨by rfl, by decide, by decide, by decide +kernel, by decide +kernel, ?_⟩
  · exact .inl ⟨[38, 35, 120, 57], by decide +kernel, by decide⟩
  · exact .inl ⟨[38, 35, 48, 57], by decide +kernel, by decide⟩
  · exact .inl ⟨[38, 35, 120, 65], by decide +kernel, by decide⟩
  · exact .inl ⟨[38, 35, 49, 48], by decide +kernel, by decide⟩
  · exact .inl ⟨[38, 35, 120, 68], by decide +kernel, by decide⟩
  · exact .inl ⟨[38, 35, 49, 51], by decide +kernel, by decide⟩
  · exact .inl ⟨[38, 97, 109, 112], by decide +kernel, by decide⟩
  · exact .inl ⟨[38, 97, 109, 112], by decide +kernel, by decide⟩
  · exact .inl ⟨[38, 108, 116], by decide +kernel, by decide⟩
  · exact .inl ⟨[38, 108, 116], by decide +kernel, by decide⟩
  · exact .inr ⟨rfl, by decide +kernel⟩
  · exact .inl ⟨[38, 103, 116], by decide +kernel, by decide⟩
  · exact .inl ⟨[38, 113, 117, 111, 116], by decide +kernel, by decide⟩
  · exact .inl ⟨[38, 113, 117, 111, 116], by decide +kernel, by decide⟩
theorem sign_of {y : Str} (h : ∃ i : Int, 0 ≤ i ∧ i < 7 ∧ y = Txt.item "\t\n\r&<>\"" i) : ∃ yc, y = mkS [yc] ∧ (yc = 9 ∨ yc = 10 ∨ yc = 13 ∨ yc = 38 ∨ yc = 60 ∨ yc = 62 ∨ yc = 34) := by
  obtain ⟨i, h0, h1, rfl⟩ := h
  have : i = 0 ∨ i = 1 ∨ i = 2 ∨ i = 3 ∨ i = 4 ∨ i = 5 ∨ i = 6 := by omega
  rcases this with rfl | rfl | rfl | rfl | rfl | rfl | rfl
  · exact ⟨9, rfl, by simp⟩
  · exact ⟨10, rfl, by simp⟩
  · exact ⟨13, rfl, by simp⟩
  · exact ⟨38, rfl, by simp⟩
  · exact ⟨60, rfl, by simp⟩
  · exact ⟨62, rfl, by simp⟩
  · exact ⟨34, rfl, by simp⟩
noncomputable def pieceN (z : List Nat) (g : Int) : List Nat := List.replicate (g - 1).toNat 32 ++ z
theorem piece_cs (z : Str) (g : Int) : Txt.mul " " (g - 1) ++ z = mkS (pieceN (cs z) g) := cs_inj (by rw [cs_app, mul_sp]; rfl)
theorem pieces_map (gaps : List Int) (z : Str) : piecesOf gaps z = (gaps.map (pieceN (cs z))).map mkS := by
  unfold piecesOf
  rw [List.map_map]
  exact List.map_congr_left fun g _ => piece_cs z g
theorem writ_cs (gaps : List Int) (z : Str) : cs (writ gaps z) = (gaps.map (pieceN (cs z))).flatten := by
  unfold writ
  rw [cs_join0, pieces_map, List.flatMap_map, List.flatMap_def, List.map_map]; rfl
theorem leadG_cs (gaps : List Int) : cs (leadG gaps) = gaps.flatMap (pieceN [9]) := by
  unfold leadG
  rw [cs_join0, List.flatMap_map]
  congr 1
  funext g
  rw [piece_cs]; rfl
theorem flat_piece {k : Nat → List Nat} {z : List Nat} {g : Int} (h1 : k 32 = [32]) (h2 : k 9 = z) : (pieceN [9] g).flatMap k = pieceN z g := by
  unfold pieceN
  rw [List.flatMap_append]
  have : ∀ n, (List.replicate n 32).flatMap k = List.replicate n 32 := fun n => by
    induction n with
    | zero => rfl
    | succ n ih => rw [List.replicate_succ, List.flatMap_cons, ih, h1]; rfl
  rw [this]
  simp [h2]
theorem text_cs (gaps : List Int) (yc : Nat) : cs (Txt.replace (leadG gaps) "\t" (mkS [yc])) = gaps.flatMap (pieceN [yc]) := by
  rw [show ("\t" : Str) = ⟨#[9]⟩ from rfl, replace_eq, cs_mk, leadG_cs, List.flatMap_assoc]
  congr 1
  funext g
  exact flat_piece (if_neg (by decide)) (if_pos rfl)
theorem flat_piece2 {k : Nat → List Nat} {yc : Nat} {z : List Nat} {g : Int} (h1 : k 32 = [32]) (h2 : k yc = z) : (pieceN [yc] g).flatMap k = pieceN z g := by
  unfold pieceN
  rw [List.flatMap_append]
  have : ∀ n, (List.replicate n 32).flatMap k = List.replicate n 32 := fun n => by
    induction n with
    | zero => rfl
    | succ n ih => rw [List.replicate_succ, List.flatMap_cons, ih, h1]; rfl
  rw [this]
  simp [h2]
theorem esc_writ {plain : Bool} {yc : Nat} {z : Str} (Z : ZF plain yc z) (gaps : List Int) : (if plain = true then escA (Txt.replace (leadG gaps) "\t" (mkS [yc])) else escC (Txt.replace (leadG gaps) "\t" (mkS [yc]))) = writ gaps z := by
  have hz := Z.e
  cases plain
  · rw [if_neg (by decide)] at hz ⊢
    refine cs_inj ?_
    rw [escC_eq, cs_mk, text_cs, List.flatMap_assoc, writ_cs, ← List.flatMap_def]
    congr 1
    funext g
    exact flat_piece2 (by decide +kernel) hz
  · rw [if_pos rfl] at hz ⊢
    refine cs_inj ?_
    rw [escA_eq, cs_mk, text_cs, List.flatMap_assoc, writ_cs, ← List.flatMap_def]
    congr 1
    funext g
    exact flat_piece2 (by decide +kernel) hz
theorem text_len (gaps : List Int) (yc : Nat) : (Txt.replace (leadG gaps) "\t" (mkS [yc])).length = (leadG gaps).length := by
  rw [← cs_len, ← cs_len, text_cs, leadG_cs]
  induction gaps with
  | nil => rfl
  | cons g r ih => rw [List.flatMap_cons, List.flatMap_cons, List.length_append, List.length_append, ih]; simp [pieceN]
theorem cfacts {plain : Bool} {yc : Nat} {z : Str} {gaps : List Int} (Z : ZF plain yc z) (gp : ∀ g ∈ gaps, 1 ≤ g ∧ g ≤ 100) (gl : gaps.length ≤ 100) (gn : 0 < gaps.length) (hl : (leadG gaps).length ≤ 12) : CFacts plain gaps (leadG gaps) (mkS [yc]) z :=
  ⟨Z.nm, rfl, Z.z1, Z.z2, by rw [text_len]; exact hl, by omega, esc_writ Z gaps, gp, gl, gn⟩
end
section
theorem runs_of : ∀ (W : List Nat), 124 ∉ W → ∃ ps p, spl 124 (W.flatMap fun a => if a = 32 then [32, 124] else [a]) = ps ++ [p] ∧ (∀ q ∈ ps, ∃ z, q = z ++ [32] ∧ 32 ∉ z) ∧ 32 ∉ p ∧ (ps ++ [p]).flatten = W
  | [], _ => ⟨[], [], rfl, by simp, by simp, rfl⟩
  | a :: r, h => by
    obtain ⟨ps, p, e1, e2, e3, e4⟩ := runs_of r fun h' => h (.tail _ h')
    have ha : a ≠ 124 := fun e => h (e ▸ .head _)
    rw [List.flatMap_cons]
    generalize (r.flatMap fun a => if a = 32 then [32, 124] else [a]) = R at e1
    by_cases h32 : a = 32
    · subst h32
      refine ⟨[32] :: ps, p, ?_, ?_, e3, ?_⟩
      · rw [if_pos rfl]
        show spl 124 (32 :: 124 :: R) = _
        rw [spl_cons, if_neg ha, spl_cons, if_pos rfl, e1]; rfl
      · intro q hq
        rcases List.mem_cons.mp hq with rfl | hq
        · exact ⟨[], rfl, by simp⟩
        · exact e2 q hq
      · rw [List.cons_append, List.flatten_cons, e4]; rfl
    · rw [if_neg h32]
      show ∃ ps p, spl 124 (a :: R) = ps ++ [p] ∧ _
      rw [spl_cons, if_neg ha, e1]
      cases ps with
      | nil =>
        refine ⟨[], a :: p, rfl, by simp, ?_, ?_⟩
        · intro hm
          rcases List.mem_cons.mp hm with e | hm
          · exact h32 e.symm
          · exact e3 hm
        · simp only [List.nil_append, List.flatten_cons, List.flatten_nil, List.append_nil] at e4 ⊢
          rw [e4]
      | cons q ps =>
        refine ⟨(a :: q) :: ps, p, rfl, ?_, e3, ?_⟩
        · intro q' hq
          rcases List.mem_cons.mp hq with rfl | hq
          · obtain ⟨z, hz, hz2⟩ := e2 q (.head _)
            refine ⟨a :: z, by rw [hz]; rfl, ?_⟩
            intro hm
            rcases List.mem_cons.mp hm with e | hm
            · exact h32 e.symm
            · exact hz2 hm
          · exact e2 q' (.tail _ hq)
        · simp only [List.cons_append, List.flatten_cons] at e4 ⊢
          rw [e4]
structure GFacts (gaps : List Int) : Prop where
  gp : ∀ g ∈ gaps, 1 ≤ g ∧ g ≤ 100
  gl : gaps.length ≤ 100
  gn : 0 < gaps.length
section
variable {plain : Bool} {yc : Nat} {z : Str} {gaps : List Int}
theorem piece_lim (Z : ZF plain yc z) {g : Int} : ∀ a ∈ pieceN (cs z) g, a < 128 ∧ a ≠ 9 ∧ a ≠ 124 := fun a ha => by
  unfold pieceN at ha
  rcases List.mem_append.mp ha with h | h
  · obtain rfl := List.eq_of_mem_replicate h; decide
  · have := Z.lim a h
    exact ⟨this.1, this.2.1, this.2.2.1⟩
theorem writ_lim (Z : ZF plain yc z) : ∀ a ∈ cs (writ gaps z), a < 128 ∧ a ≠ 9 ∧ a ≠ 124 := fun a ha => by
  rw [writ_cs] at ha
  obtain ⟨p, hp, ha⟩ := List.mem_flatten.mp ha
  obtain ⟨g, hg, rfl⟩ := List.mem_map.mp hp
  exact piece_lim Z a ha
theorem pieces_ne (Z : ZF plain yc z) : ∀ p ∈ piecesOf gaps z, p.length ≠ 0 := fun p hp => by
  obtain ⟨g, hg, rfl⟩ := List.mem_map.mp hp
  have := Z.z1
  rw [slen_app]; omega
theorem pieces_ok (Z : ZF plain yc z) : ∀ p ∈ piecesOf gaps z, PyData.strOk p = true := fun p hp => by
  rw [pieces_map] at hp
  obtain ⟨l, hl, rfl⟩ := List.mem_map.mp hp
  obtain ⟨g, hg, rfl⟩ := List.mem_map.mp hl
  unfold PyData.strOk
  show (pieceN (cs z) g).toArray.all _ = true
  rw [List.all_toArray, List.all_eq_true]
  intro a ha
  have := (piece_lim Z a ha).1
  exact decide_eq_true (by omega)
theorem semi_eq (Z : ZF plain yc z) : (semiB z = true ∧ ∃ zi, cs z = zi ++ [59] ∧ 59 ∉ zi) ∨ (semiB z = false ∧ plain = false ∧ cs z = [62]) := by
  unfold semiB
  rcases Z.tail with ⟨zi, h1, h2⟩ | ⟨h1, h2⟩
  · refine .inl ⟨?_, zi, h1, h2⟩
    have e : z = mkS (zi ++ [59]) := by rw [← mk_cs z, h1]
    rw [e, item_last]; rfl
  · refine .inr ⟨?_, h1, h2⟩
    have e : z = mkS ([] ++ [62]) := by rw [← mk_cs z, h2]; rfl
    rw [e, item_last]
    exact decide_eq_false fun h => absurd (mk1_inj.mp (show mkS [62] = mkS [59] from h)) (by decide)
theorem gaps_snoc (G : GFacts gaps) : ∃ gs g, gaps = gs ++ [g] := by
  rcases List.eq_nil_or_concat gaps with h | ⟨l, x, h⟩
  · have := G.gn; rw [h] at this; cases this
  · exact ⟨l, x, by rw [h, List.concat_eq_append]⟩
theorem ltSt_all (W : Int) (x : Str) : ltSt W x x.length = (lets (cs x)).foldl (chunk W "; ") ⟨0, [], []⟩ := by
  unfold ltSt
  rw [List.take_of_length_le (by rw [cs_len]; omega)]
theorem fm1 (Z : ZF plain yc z) (G : GFacts gaps) {W : Nat} (hW : ∀ p ∈ piecesOf gaps z, p.length ≤ W) :
    nlLines (ltSt W (writ gaps z) (writ gaps z).length).ini (ltSt W (writ gaps z) (writ gaps z).length).parts (ltSt W (writ gaps z) (writ gaps z).length).lines = (rfold W (if semiB z = true then ";" else " ") (runsOf gaps z) 0).rows ∧
    ((runsOf gaps z).map (·.length)).sum + (runsOf gaps z).length ≤ 100000 ∧ ∀ p ∈ runsOf gaps z, p.length ≠ 0 := by
  have hsum := pieces_sum (z := z) G.gp Z.z2 G.gl
  have hwl := writ_len (z := z) G.gp Z.z2 G.gl
  have hpl : (piecesOf gaps z).length = gaps.length := by simp [piecesOf]
  have hgl := G.gl
  rw [ltSt_all]
  unfold runsOf
  rcases semi_eq Z with ⟨hs, zi, h1, h2⟩ | ⟨hs, h1, h2⟩
  · rw [if_pos hs, if_pos hs]
    refine ⟨?_, by omega, pieces_ne Z⟩
    obtain ⟨gs, g, rfl⟩ := gaps_snoc G
    have hpc : ∀ g, pieceN (cs z) g = (List.replicate (g - 1).toNat 32 ++ zi) ++ [59] ∧ 59 ∉ (pieceN (cs z) g).dropLast := fun g => by
      have e : pieceN (cs z) g = (List.replicate (g - 1).toNat 32 ++ zi) ++ [59] := by unfold pieceN; rw [h1, List.append_assoc]
      refine ⟨e, ?_⟩
      rw [e, List.dropLast_concat]
      intro hm
      rcases List.mem_append.mp hm with h | h
      · have := List.eq_of_mem_replicate h; omega
      · exact h2 h
    have hmd : ∀ g' ∈ gs ++ [g], Mode 59 W (pieceN (cs z) g') := fun g' hg => .inl ⟨rfl, by
      have := hW (mkS (pieceN (cs z) g')) (by rw [pieces_map]; exact List.mem_map.mpr ⟨_, List.mem_map.mpr ⟨g', hg, rfl⟩, rfl⟩)
      rw [mk_len] at this; exact this⟩
    have := fmt_rows (b := 59) (W := W) (a := 59) (ps := gs.map (pieceN (cs z))) (p := pieceN (cs z) g) (z := List.replicate (g - 1).toNat 32 ++ zi) (fun p hp => by
      obtain ⟨g', hg', rfl⟩ := List.mem_map.mp hp
      exact ⟨hmd g' (by simp [hg']), (hpc g').2, _, (hpc g').1⟩) (.inl rfl) (hmd g (by simp)) (hpc g).2 (hpc g).1 (by decide +kernel)
    have e1 : (gs ++ [g]).map (pieceN (cs z)) = gs.map (pieceN (cs z)) ++ [pieceN (cs z) g] := by simp
    rw [writ_cs, pieces_map, e1]
    exact this
  · have hsf : ¬ semiB z = true := by rw [hs]; decide
    rw [if_neg hsf, if_neg hsf]
    have hlim := writ_lim (gaps := gaps) Z
    obtain ⟨ps, p, e1, e2, e3, e4⟩ := runs_of (cs (writ gaps z)) fun h => (hlim 124 h).2.2 rfl
    have hrun : Txt.split (Txt.replace (writ gaps z) " " " |") "|" = (ps ++ [p]).map mkS := by
      rw [show ("|" : Str) = ⟨#[124]⟩ from rfl, show (" " : Str) = ⟨#[32]⟩ from rfl, split_eq, replace_eq, cs_mk, ← e1]
      rfl
    have hend : ∃ w0, cs (writ gaps z) = w0 ++ [62] := by
      obtain ⟨gs, g, rfl⟩ := gaps_snoc G
      refine ⟨(gs.map (pieceN (cs z))).flatten ++ List.replicate (g - 1).toNat 32, ?_⟩
      rw [writ_cs, List.map_append, List.flatten_append]
      simp only [List.map_cons, List.map_nil, List.flatten_cons, List.flatten_nil, List.append_nil]
      unfold pieceN
      rw [h2, List.append_assoc]
    obtain ⟨w0, hw0⟩ := hend
    have h59 : 59 ∉ cs (writ gaps z) := by
      intro hm
      rw [writ_cs] at hm
      obtain ⟨q, hq, ha⟩ := List.mem_flatten.mp hm
      obtain ⟨g, hg, rfl⟩ := List.mem_map.mp hq
      unfold pieceN at ha
      rcases List.mem_append.mp ha with h | h
      · have := List.eq_of_mem_replicate h; omega
      · rw [h2] at h; simp at h
    have hp : ∃ pz, p = pz ++ [62] := by
      have hf : ps.flatten ++ p = w0 ++ [62] := by rw [← hw0, ← e4]; simp
      rcases List.eq_nil_or_concat p with h | ⟨l, x, h⟩
      · exfalso
        rw [h, List.append_nil] at hf
        rcases List.eq_nil_or_concat ps with h' | ⟨l', x', h'⟩
        · rw [h'] at hf; simp at hf
        · rw [List.concat_eq_append] at h'
          obtain ⟨zz, hz1, hz2⟩ := e2 x' (by rw [h']; simp)
          rw [h', List.flatten_append, hz1] at hf
          simp only [List.flatten_cons, List.flatten_nil, List.append_nil, ← List.append_assoc] at hf
          have := List.append_inj_right' hf rfl
          simp at this
      · rw [List.concat_eq_append] at h
        refine ⟨l, ?_⟩
        rw [h, ← List.append_assoc] at hf
        have := List.append_inj_right' hf rfl
        rw [h, this]
    obtain ⟨pz, hpz⟩ := hp
    have hall : ∀ q ∈ ps ++ [p], ∀ a ∈ q, a ∈ cs (writ gaps z) := fun q hq a ha => by rw [← e4]; exact List.mem_flatten.mpr ⟨q, hq, ha⟩
    have hmd : ∀ q ∈ ps ++ [p], Mode 32 W q := fun q hq => .inr ⟨rfl, fun h => h59 (hall q hq 59 h)⟩
    have key := fmt_rows (b := 32) (W := W) (a := 62) (ps := ps) (p := p) (z := pz) (fun q hq => by
      obtain ⟨zz, hz1, hz2⟩ := e2 q hq
      exact ⟨hmd q (List.mem_append_left _ hq), by rw [hz1, List.dropLast_concat]; exact hz2, zz, hz1⟩) (.inr rfl) (hmd p (by simp)) (not_dl e3) hpz (by decide +kernel)
    rw [e4] at key
    refine ⟨?_, ?_, ?_⟩
    · rw [hrun]; exact key
    · rw [hrun]
      have hls : (((ps ++ [p]).map mkS).map (·.length)).sum = (cs (writ gaps z)).length := by
        rw [← e4, List.length_flatten, List.map_map]
        congr 1
      have hne : ∀ q ∈ ps ++ [p], 1 ≤ q.length := fun q hq => by
        rcases List.mem_append.mp hq with h | h
        · obtain ⟨zz, hz1, _⟩ := e2 q h
          rw [hz1]; simp
        · obtain rfl := List.mem_singleton.mp h
          rw [hpz]; simp
      have hcount : ∀ l : List (List Nat), (∀ q ∈ l, 1 ≤ q.length) → l.length ≤ l.flatten.length := fun l => by
        induction l with
        | nil => intro _; simp
        | cons x r ih =>
          intro h
          have h1 := h x (.head _)
          have h2 := ih fun q hq => h q (.tail _ hq)
          rw [List.flatten_cons, List.length_append, List.length_cons]; omega
      have := hcount _ hne
      rw [e4] at this
      rw [hls, List.length_map]
      have hcl := cs_len (writ gaps z)
      omega
    · rw [hrun]
      intro q hq
      obtain ⟨l, hl, rfl⟩ := List.mem_map.mp hq
      rw [mk_len]
      rcases List.mem_append.mp hl with h | h
      · obtain ⟨zz, hz1, _⟩ := e2 l h
        rw [hz1]; simp
      · obtain rfl := List.mem_singleton.mp h
        rw [hpz]; simp
theorem fm2 (Z : ZF plain yc z) (G : GFacts gaps) {W head : Int} (h0 : 0 ≤ head) :
    nlLines (otSt W head (whD plain) (piecesOf gaps z) (piecesOf gaps z).length).ini (otSt W head (whD plain) (piecesOf gaps z) (piecesOf gaps z).length).parts (otSt W head (whD plain) (piecesOf gaps z) (piecesOf gaps z).length).lines = (rfold W ";" ((piecesOf gaps z).map fun p => whD plain ++ p) head).rows := by
  unfold otSt
  rw [List.take_length]
  obtain ⟨gs, g, rfl⟩ := gaps_snoc G
  obtain ⟨e, he, hwh, hpc⟩ : ∃ e, (e = 59 ∨ e = 62) ∧ Wh e (whD plain) ∧ ∀ p ∈ piecesOf (gs ++ [g]) z, Pc e p := by
    have hfirst : ∀ p ∈ piecesOf (gs ++ [g]) z, ∀ a l, cs p = a :: l → a ≠ 9 := fun p hp a l hal => by
      rw [pieces_map] at hp
      obtain ⟨q, hq, rfl⟩ := List.mem_map.mp hp
      obtain ⟨g', _, rfl⟩ := List.mem_map.mp hq
      rw [cs_mk] at hal
      exact (piece_lim Z a (by rw [hal]; exact .head _)).2.1
    have htail : ∀ e zi, cs z = zi ++ [e] → ∀ p ∈ piecesOf (gs ++ [g]) z, ∃ q, p = mkS (q ++ [e]) := fun e zi hzi p hp => by
      rw [pieces_map] at hp
      obtain ⟨q, hq, rfl⟩ := List.mem_map.mp hp
      obtain ⟨g', _, rfl⟩ := List.mem_map.mp hq
      refine ⟨List.replicate (g' - 1).toNat 32 ++ zi, ?_⟩
      unfold pieceN
      rw [hzi, List.append_assoc]
    rcases Z.tail with ⟨zi, h1, h2⟩ | ⟨h1, h2⟩
    · refine ⟨59, .inl rfl, ?_, fun p hp => ⟨htail 59 zi h1 p hp, hfirst p hp⟩⟩
      cases plain
      · exact .inl rfl
      · exact .inr ⟨rfl, rfl⟩
    · subst h1
      exact ⟨62, .inr rfl, .inl rfl, fun p hp => ⟨htail 62 [] h2 p hp, hfirst p hp⟩⟩
  have e1 : piecesOf (gs ++ [g]) z = piecesOf gs z ++ [Txt.mul " " (g - 1) ++ z] := by simp [piecesOf]
  rw [e1] at hpc ⊢
  exact fmt_rows2 he hwh h0 hpc
end
end
section
theorem leadD_len (size step marks : Nat) : (leadD size step marks).length = size := by
  unfold leadD
  rw [leadOf_len, List.map_map]
  have : ∀ n, ((List.range n).map ((fun x : Str => x.length) ∘ fun j => if atX size step marks j = true then ("\t" : Str) else " ")).sum = n := fun n => by
    induction n with
    | zero => rfl
    | succ n ih =>
      rw [List.range_succ, List.map_append, List.sum_append, ih]
      simp only [List.map_cons, List.map_nil, List.sum_cons, List.sum_nil, Function.comp]
      split <;> rfl
  exact this size
theorem lead_short {size step marks head : Int} {plain : Bool} {first last near far : Int} {gaps : List Int} (h1 : 5 ≤ size) (h2 : size ≤ 8) (h3 : 1 ≤ step) (h4 : step < size) (h5 : 2 ≤ marks) (h6 : marks ≤ size.fdiv (Nat.gcd size.toNat step.toNat : Nat)) (h7 : 0 ≤ head) (h8 : head ≤ size) (F : AFacts size step marks head first last near far plain gaps) : (leadG gaps).length ≤ 12 := by
  obtain ⟨s, st, m, R⟩ := rg_of h1 h2 h3 h4 h5 h6
  obtain ⟨hd, rfl⟩ := Int.eq_ofNat_of_zero_le h7
  obtain ⟨rfl, rfl, rfl, r1, r2, r3, r4, r5, r6⟩ := R
  obtain ⟨l1, _⟩ := lead_plain (size := s) (head := hd) (step := st) (marks := m) plain (by omega) (by omega) (by omega) (by omega) (by omega)
  have hl := F.lead
  rw [l1] at hl
  have : (leadG gaps).length = s := by
    show (Str.join "" (gaps.map fun g => Txt.mul " " (g - 1) ++ "\t")).length = s
    rw [← hl, leadD_len]
  omega
theorem gfacts {size step marks head : Int} {plain : Bool} {first last near far : Int} {gaps : List Int} (h5 : 2 ≤ marks) (F : AFacts size step marks head first last near far plain gaps) : GFacts gaps := by
  refine ⟨F.gp, F.gl, ?_⟩
  obtain ⟨_, _, _, _, rfl⟩ := F.eqs
  have : (gapsI size step marks).length = marks.toNat := by simp [gapsI, Gp.gaps]
  omega
set_option maxHeartbeats 16000000 in
theorem law_body {k : Nat} {w : World} {os : OsState} {base : Heap} {outer : List Env} {A₀ A : Around} {h₀ : Heap} {L : Addr} {X Y : Led} {H : Own} {Q : SP} {ns : List Int} :
    let c : Cx := lawCx w os base outer A₀ A h₀ L X Y
    c.Good (k + 10) → Tabs H → ns.length ≤ 63 → (∀ l, Q (.ret (.bool true)) l H) →
    ASs c c.env lawF.body
      (Lc (some (.blst (ns.map AV.int))) none none none none none none none none none none none none none none none none none none none none none none none none none none none) (Hc L none none none none none H) Q := by
  intro c G TB hl hQ
  refine lawA G TB hl afacts ?_
  intro size step marks head plain first last near far gaps y spare d n t h1 h2 h3 h4 h5 h6 h7 h8 F s0 s1 hy hd hdb ht0 htn
  have hm8 : marks ≤ 8 := by
    rw [Int.fdiv_eq_ediv_of_nonneg _ (by omega)] at h6
    have := Int.ediv_le_self (a := size) (Nat.gcd size.toNat step.toNat : Nat) (by omega)
    omega
  have GF := gfacts h5 F
  obtain ⟨yc, rfl, hyc⟩ := sign_of hy
  have Z := zfacts plain hyc
  generalize zOf plain yc = z at Z
  have C := cfacts Z GF.gp GF.gl GF.gn (lead_short h1 h2 h3 h4 h5 h6 h7 h8 F)
  have B := bfacts h1 h2 h3 h4 h5 h6 F s0 s1
  generalize cntI size step marks = cnt at B
  show ASsP n c c.env _ (Lc _ _ _ _ _ _ _ _ _ _ _ _ _ (some (.str (leadG gaps))) _ _ _ _ _ _ _ _ _ _ _ _ _ _) _ Q
  refine lawB G h1 h2 h5 hm8 s0 s1 B ?_
  intro rd wn wt wb hwt hwb
  subst hwt; subst hwb
  refine lawB2 G h1 h2 (by omega) (by omega) (by omega) B ?_
  intro tv
  refine lawB3 G (by omega) B ?_
  intro ab
  refine lawC1 G ht0 htn C ?_
  have hpl : (piecesOf gaps z).length = gaps.length := by simp [piecesOf]
  have hgl := GF.gl
  have hgn := GF.gn
  refine lawC2 G TB hd hdb (by omega) (by omega) (fun p hp => Nat.le_trans (pieces_len GF.gp Z.z2 p hp) (by decide)) (writ_len GF.gp Z.z2 GF.gl) (fun a ha => (writ_lim Z a ha).1) ?_
  intro M spread mk ln ac lv hM hex hs0 hs1
  obtain ⟨sp, rfl⟩ := Int.eq_ofNat_of_zero_le hs0
  obtain ⟨f1, f2, f3⟩ := fm1 Z GF (W := M + sp) fun p hp => Nat.le_trans (hM p hp) (Nat.le_add_right _ _)
  have hz1 := Z.z1
  have eW : ((M : Int) + (sp : Int)) = ((M + sp : Nat) : Int) := by push_cast; rfl
  rw [eW]
  refine lawC3 (semi := semiB z) G (by omega) TB (by omega) rfl (writ_len GF.gp Z.z2 GF.gl) (by unfold runsOf; rfl) f2 f3 (ltSt_ok (fun a ha => (writ_lim Z a ha).1) _) (by have := writ_len (z := z) GF.gp Z.z2 GF.gl; omega) f1 ?_
  refine lawD G TB h7 (by omega) hs0 (by omega) (by omega) (fun p hp => ⟨pieces_len GF.gp Z.z2 p hp, pieces_ok Z p hp⟩) (pieces_ne Z) (fm2 Z GF h7) hQ
end
section
set_option maxHeartbeats 4000000
theorem lookup_keep {K : Frag} {a : Addr} {o : Obj} (h : (K.filter fun p => !(p.1 == 140 || p.1 == 147)).lookup a = some o) : K.lookup a = some o ∧ a ∉ ([140, 147] : List Addr) := by
  induction K with
  | nil => cases h
  | cons p r ih =>
    obtain ⟨b, ob⟩ := p
    by_cases hb : (!(b == 140 || b == 147)) = true
    · rw [List.filter_cons, if_pos hb] at h
      rw [List.lookup_cons] at h ⊢
      cases e : a == b with
      | true =>
        rw [e] at h
        have hab : a = b := by simpa using e
        subst hab
        refine ⟨h, ?_⟩
        simpa using hb
      | false => rw [e] at h; exact ih h
    · rw [List.filter_cons, if_neg hb] at h
      obtain ⟨h1, h2⟩ := ih h
      refine ⟨?_, h2⟩
      rw [List.lookup_cons]
      have hne : (a == b) = false := by
        cases e : a == b with
        | false => rfl
        | true =>
          have hab : a = b := by simpa using e
          subst hab
          exfalso; apply hb; simpa using h2
      rw [hne]; exact h1
noncomputable def tabOf (K : Frag) (c P : Addr) : Bool := match K.lookup c with
  | some o => o.cls == .type "code" && (match o.data with | .fields vs => vs[11]? == some (.ref P) | _ => false)
  | none => false
theorem codeTab_of {K : Frag} {h : Heap} {c P : Addr} (X : K.In h) (e : tabOf K c P = true) : isCodeTable h P := by
  unfold tabOf at e
  split at e
  · rename_i o ho
    obtain ⟨e1, e2⟩ := Bool.and_eq_true_iff.mp e
    split at e2
    · rename_i vs hd
      exact ⟨c, o, vs, X _ _ ho, beq_iff_eq.mp e1, hd, beq_iff_eq.mp e2⟩
    · cases e2
  · cases e
noncomputable abbrev gOf (h : Heap) : Heap := hideAll h [140, 147]
theorem g_get {h : Heap} {b : Addr} {o : Obj} (e : h.get? b = some o) (hb : b ∉ ([140, 147] : List Addr)) : (gOf h).get? b = some o := hideAll_get _ e hb
theorem g_ns {h : Heap} {N : Addr} {m : Str → Option Value} (G : h.Ns N m) (hN : N ∉ ([140, 147] : List Addr)) : (gOf h).Ns N m := by
  obtain ⟨o, es, ep, ho, r⟩ := G
  exact ⟨o, es, ep, g_get ho hN, r⟩
theorem topX_hide {h : Heap} {mg mb : Str → Option Value} (T : TopX h mg mb) (h1 : h.get? 140 = some (tabO #[])) (h2 : h.get? 147 = some (tabO #[])) : TopX (gOf h) mg mb := by
  refine ⟨g_ns T.g (by decide), g_ns T.b (by decide), ?_, T.builtins, ?_⟩
  · obtain ⟨mc, n, e⟩ := T.nolimit
    exact ⟨mc, g_ns n (by decide), e⟩
  · obtain ⟨bm, ob, B⟩ := T.bmod
    refine ⟨bm, ob, g_ns B.ns (by decide), B.name, B.ne, g_get B.obj ?_, B.cls, B.dict, B.data⟩
    intro hm
    have hcl := B.cls
    have hob := B.obj
    rcases List.mem_cons.mp hm with e | hm
    · rw [e, h1] at hob; obtain rfl := Option.some.inj hob; cases hcl
    · obtain rfl := List.mem_singleton.mp hm
      rw [h2] at hob; obtain rfl := Option.some.inj hob; cases hcl
theorem K_hide {w : World} {h : Heap} (KX : (kTop w.params).In h) : (KF w).In h ∧ (KF w).In (gOf h) :=
  ⟨fun a o e => KX a o (lookup_keep e).1, fun a o e => g_get (KX a o (lookup_keep e).1) (lookup_keep e).2⟩
noncomputable abbrev H0 : Own := [(140, .table 93 19), (147, .table 96 32)]
theorem tabs0 : Tabs H0 := ⟨.head _, .tail _ (.head _)⟩
theorem oldK_close {w : World} {h h' : Heap} {L : Addr} {m : Str → Option Value} {N es : Led} {base : Heap} (KX : (kTop w.params).In h) (h1 : h.get? 140 = some (tabO #[])) (h2 : h.get? 147 = some (tabO #[])) (F : Fr (gOf h) L h' m) (nw : News (gOf h) L h' (N ++ es)) (own : OwnR base N [] H0 es) : OldK h h' := by
  have key : ∀ b, b ∈ ([140, 147] : List Addr) → ∃ ps : Array Value, h'.get? b = some (tabO ps) := fun b hb => by
    cases own with
    | @cons _ _ e es' _ r1 own' =>
      cases own' with
      | @cons _ _ e2 es2 _ r2 own2 =>
        rcases List.mem_cons.mp hb with rfl | hb
        · cases r1 with
          | tab0 => exact ⟨_, (nw _ (List.mem_append_right _ (List.mem_append_left _ (.head _)))).1⟩
          | tab1 => exact ⟨_, (nw _ (List.mem_append_right _ (List.mem_append_left _ (.head _)))).1⟩
        · obtain rfl := List.mem_singleton.mp hb
          cases r2 with
          | tab0 => exact ⟨_, (nw _ (List.mem_append_right _ (List.mem_append_right _ (List.mem_append_left _ (.head _))))).1⟩
          | tab1 => exact ⟨_, (nw _ (List.mem_append_right _ (List.mem_append_right _ (List.mem_append_left _ (.head _))))).1⟩
  have tab : ∀ b, b ∈ ([140, 147] : List Addr) → h.get? b = some (tabO #[]) ∧ isCodeTable h b := fun b hb => by
    rcases List.mem_cons.mp hb with rfl | hb
    · exact ⟨h1, codeTab_of (c := 144) KX (by kernel_rfl)⟩
    · obtain rfl := List.mem_singleton.mp hb
      exact ⟨h2, codeTab_of (c := 151) KX (by kernel_rfl)⟩
  refine ⟨fun b o e => ?_, fun b o e => ?_⟩
  · by_cases hb : b ∈ ([140, 147] : List Addr)
    · obtain ⟨t1, t2⟩ := tab b hb
      rw [t1] at e
      obtain rfl := Option.some.inj e
      obtain ⟨ps, hp⟩ := key b hb
      exact .inr (.inl ⟨t2, rfl, #[], ps, rfl, by rw [hp]; simp⟩)
    · exact .inl (F.keep _ _ (g_get e hb))
  · by_cases hb : b ∈ ([140, 147] : List Addr)
    · obtain ⟨ps, hp⟩ := key b hb
      exact ⟨_, hp⟩
    · exact ⟨_, F.keep _ _ (g_get e hb)⟩
end
section
set_option maxHeartbeats 4000000
theorem law_kind (l : Value) : (([(Str.ofString "script", l)] : List (Str × Value)).all fun y => lawF.scope.names.lookup y.1 == some .local || lawF.scope.names.lookup y.1 == some .cell) = true := by
  show ((lawF.scope.names.lookup (Str.ofString "script") == some .local || lawF.scope.names.lookup (Str.ofString "script") == some .cell) && true) = true
  have : lawF.scope.names.lookup (Str.ofString "script") = some .local := by rfl
  rw [this]; rfl
theorem law_top {w : World} {s₁ : Shared} {mg mb : Str → Option Value} {ns : List Int} {vs : List Value} {l : Addr} {P : Result → Shared → Prop}
    (KX : (kTop w.params).In s₁.heap) (TX : TopX s₁.heap mg mb) (hg : s₁.gens = #[]) (hL : s₁.heap.IsList l vs.toArray) (hI : IntsAre vs ns) (hlen : ns.length ≤ 63)
    (hP : ∀ s', OldK s₁.heap s'.heap → s'.os = s₁.os → AllBare s'.gens → P (.ok (.ret (.bool true))) s') : codeAny (model pg w) callerA (.call (.ref 319) ⟨[.ref l], []⟩) P s₁ := by
  have h140 : s₁.heap.get? 140 = some (tabO #[]) := KX 140 _ (by kernel_rfl)
  have h147 : s₁.heap.get? 147 = some (tabO #[]) := KX 147 _ (by kernel_rfl)
  obtain ⟨K1, K2⟩ := K_hide KX
  have TG := topX_hide TX h140 h147
  have ho := K1 _ _ (lawF.ok w)
  have hcd : s₁.heap.CodeRec lawF.cdv lawF.qual := codeRec_of K1 (by kernel_rfl)
  have hl0 : l ∉ ([140, 147] : List Addr) := by
    obtain ⟨o, ho, hc, _⟩ := hL
    intro hm
    rcases List.mem_cons.mp hm with rfl | hm
    · rw [h140] at ho; obtain rfl := Option.some.inj ho; cases hc
    · obtain rfl := List.mem_singleton.mp hm
      rw [h147] at ho; obtain rfl := Option.some.inj ho; cases hc
  have hLg : (gOf s₁.heap).IsList l vs.toArray := by
    obtain ⟨o, ho, r⟩ := hL
    exact ⟨o, g_get ho hl0, r⟩
  have hbind : BindsTo s₁ (fnX lawF.name lawF.qual lawF.params lawF.body lawF.scope [] lawF.dV lawF.kV lawF.doc lawF.pm lawF.an lawF.cdv lawF.ct) ⟨[.ref l], []⟩ [(Str.ofString "script", .ref l)] := BindsTo.of_eq rfl
  have hnd : ((cellsFrom 0 lawF.scope.names []).map (·.1)).Nodup := by decide +kernel
  refine codeAny_call_function (fd := fnX lawF.name lawF.qual lawF.params lawF.body lawF.scope [] lawF.dV lawF.kV lawF.doc lawF.pm lawF.an lawF.cdv lawF.ct) (body := lawF.body) (by decide) ho rfl rfl rfl rfl hcd (hbind _ _ _ _ ?_)
  refine wpAny_newFunctionEnv_cells rfl (kindsX (law_kind _) _) fun env' he s' x => ?_
  subst he
  refine ⟨TX.nolimit.keeps x.toInCall.keep, codeAny_func ?_⟩
  obtain ⟨h₁, tk, rfl, _⟩ := x.done
  have hk₁ := x.toInCall.keep
  obtain ⟨cells, NC, Y⟩ := Cl.news (h₀ := s₁.heap) (Nat.le_refl _) fun n c hm => ⟨x.cell n c (lookup_of_mem_nodup (cellsFrom_names lawF.scope.names 0 (s₁.heap.objs.size + 1) [] [] rfl ▸ hnd) hm), x.above n c hm⟩
  have hns := x.toInCall.ns
  have hlt1 : ∀ b o, s₁.heap.get? b = some o → b < s₁.heap.objs.size := fun b o e => Heap.lt_size e
  generalize hLL : s₁.heap.objs.size = L at hns NC Y hlt1 ⊢
  have hns : h₁.Ns L (bindL (envOfC lawF.qual lawF.scope L 319 lawF.cdv).kindOf [(Str.ofString "script", .ref l)] fun _ => none) := hns
  have Y : CellsAre (bindC (envOfC lawF.qual lawF.scope L 319 lawF.cdv).kindOf [(Str.ofString "script", .ref l)] fun _ => none) (cellsFrom (L + 1) lawF.scope.names []) cells := Y
  clear x
  have hcells := cells_addrs Y
  have hca : (cellsFrom (L + 1) lawF.scope.names []).map (·.2) = [L + 1 + 1 + 1 + 1 + 1, L + 1 + 1 + 1 + 1, L + 1 + 1 + 1, L + 1 + 1, L + 1] := by rfl
  rw [hca] at hcells
  let c : Cx := lawCx w s₁.os (gOf s₁.heap) [] callerA (callerA.deeper (envOfC lawF.qual lawF.scope L 319 lawF.cdv)) (gOf s₁.heap) L [] []
  have G : c.Good (0 + 10) := ⟨below_caller _, rfl, rfl, ⟨by show callerA.depth + 1 + 10 * (0 + 10) < 900; decide, by show callerA.units + 3 + 40 * (0 + 10) < 9000; decide, rfl⟩, K2, ⟨mg, mb, TG⟩⟩
  have F : Fr (gOf s₁.heap) L h₁ (bindL (envOfC lawF.qual lawF.scope L 319 lawF.cdv).kindOf [(Str.ofString "script", .ref l)] fun _ => none) :=
    ⟨hns, fun b o e => hk₁ b o (of_hideAll _ e), by rw [hideAll_size]; omega⟩
  have N1 : News (gOf s₁.heap) L h₁ (cells ++ [(140, tabO #[]), (147, tabO #[])]) := fun p hp => by
    rcases List.mem_append.mp hp with hp | hp
    · refine ⟨(NC p hp).1, (NC p hp).2.1, ?_⟩
      cases q : (gOf s₁.heap).get? p.1 with
      | none => rfl
      | some o => have := of_hideAll _ q; rw [(NC p hp).2.2] at this; cases this
    · rcases List.mem_cons.mp hp with rfl | hp
      · exact ⟨hk₁ _ _ h140, Nat.ne_of_lt (hlt1 _ _ h140), hideAll_none _ (.head _)⟩
      · obtain rfl := List.mem_singleton.mp hp
        exact ⟨hk₁ _ _ h147, Nat.ne_of_lt (hlt1 _ _ h147), hideAll_none _ (.tail _ (.head _))⟩
  have l1 := hlt1 _ _ h140
  have l2 := hlt1 _ _ h147
  have nd : ((([] : Led) ++ (cells ++ [(140, tabO #[]), (147, tabO #[])])).map (fun p : Addr × Obj => p.1)).Nodup := by
    rw [List.nil_append, List.map_append, hcells]
    simp only [List.map_cons, List.map_nil, List.cons_append, List.nil_append, List.nodup_cons, List.mem_cons, List.not_mem_nil, or_false, not_or, List.nodup_nil, and_true, not_false_eq_true]
    have l1 : (140 : Nat) < L := l1
    have l2 : (147 : Nat) < L := l2
    clear_value c
    refine ⟨⟨?_, ?_, ?_, ?_, ?_, ?_⟩, ⟨?_, ?_, ?_, ?_, ?_⟩, ⟨?_, ?_, ?_, ?_⟩, ⟨?_, ?_, ?_⟩, ⟨?_, ?_⟩, ?_⟩ <;> first | (intro h; have h : (_ : Nat) = _ := h; omega) | omega | decide
  have own : OwnR (gOf s₁.heap) [] [] (Hc L none none none none none H0) (cells ++ [(140, tabO #[]), (147, tabO #[])]) := by
    have hv : CellVals (gOf s₁.heap) [] (bindC (envOfC lawF.qual lawF.scope L 319 lawF.cdv).kindOf [(Str.ofString "script", .ref l)] fun _ => none) (cellsFrom (L + 1) lawF.scope.names []) [none, none, none, none, none] := .none (.none (.none (.none (.none .nil))))
    have h0 : OwnR (gOf s₁.heap) [] [] H0 [(140, tabO #[]), (147, tabO #[])] := OwnR.cons (e := [(140, tabO #[])]) .tab0 (OwnR.cons (e := [(147, tabO #[])]) .tab0 .nil)
    exact ownR_cells hv Y h0
  have hvl : VR (gOf s₁.heap) [] (.blst (ns.map AV.int)) (.ref l) := .blst hLg (VRs.ofInts hI)
  have loc : LocR lawF.scope (gOf s₁.heap) [] (bindL (envOfC lawF.qual lawF.scope L 319 lawF.cdv).kindOf [(Str.ofString "script", .ref l)] fun _ => none) (Lc (some (.blst (ns.map AV.int))) none none none none none none none none none none none none none none none none none none none none none none none none none none none) := by
    refine ⟨(by decide : (["script", "drawn", "plain", "marks", "head", "sign", "spare", "places", "first", "last", "near", "far", "gaps", "lead", "pairs", "counts", "read", "about", "pieces", "text", "written", "spread", "width", "maker", "letter", "runs", "other", "part"] : List String).Nodup), ?_, fun n v hm => ?_⟩
    · show ∀ x ∈ (["script", "drawn", "plain", "marks", "head", "sign", "spare", "places", "first", "last", "near", "far", "gaps", "lead", "pairs", "counts", "read", "about", "pieces", "text", "written", "spread", "width", "maker", "letter", "runs", "other", "part"] : List String), locOk lawF.scope x = true
      decide +kernel
    simp only [List.mem_cons, Prod.mk.injEq, Option.some.injEq, reduceCtorEq, and_false, List.not_mem_nil, or_false] at hm
    obtain ⟨rfl, rfl⟩ := hm
    exact ⟨_, by rfl, hvl⟩
  have R : RepW c (Lc (some (.blst (ns.map AV.int))) none none none none none none none none none none none none none none none none none none none none none none none none none none none) (Hc L none none none none none H0) [] { s₁ with heap := h₁, toks := tk } [] (cells ++ [(140, tabO #[]), (147, tabO #[])]) (bindL (envOfC lawF.qual lawF.scope L 319 lawF.cdv).kindOf [(Str.ofString "script", .ref l)] fun _ => none) :=
    ⟨F, N1, nd, own, (fun p hp => by cases hp), (fun p hp => by cases hp), loc, .of_eq hg, rfl⟩
  have body := law_body (k := 0) (w := w) (os := s₁.os) (base := gOf s₁.heap) (outer := []) (A₀ := callerA) (A := callerA.deeper (envOfC lawF.qual lawF.scope L 319 lawF.cdv)) (h₀ := gOf s₁.heap) (L := L) (X := []) (Y := []) (H := H0) (Q := fun f _ H1 => f = .ret (.bool true) ∧ H1 = H0) (ns := ns) G tabs0 hlen fun _ => ⟨rfl, rfl⟩
  refine wpAny_mono (body [] _ R.rep) (fun fl s' hp => ?_) fun _ _ e => e.elim
  obtain ⟨fl', loc', H', T', hf, R2, rfl, rfl⟩ := hp
  obtain ⟨N2, es2, m2, R2⟩ := R2
  cases hf with
  | @ret v v' =>
    have hv := R2.tmp _ (.head _)
    cases hv
    exact hP s' (oldK_close KX h140 h147 R2.F R2.nw R2.own) R2.os R2.gens
end
section
set_option maxHeartbeats 4000000
theorem holds : PySem.Challenge.rw_xc0037_01.Holds := by
  refine hd ?_
  intro w s₀ s₁ mg mb G Y fa o pm cd doc dV kV ho hdat hcd hD hmg hg args vals as hpre hlay hrd hwl hlo
  have KX := kIn_of Y
  have T := G.T
  clear ho hdat hcd hD Y G
  wrow_args hpre hlay hrd hwl hlo
  rename_i ns _ _ _ _ _ _ _ l vs _ hL _ _ _ hI _ hcond _
  refine enter_call ?_
  have TX : TopX s₁.heap mg mb := ⟨T.g, T.b, T.nolimit, T.builtins, bmod_of_top T⟩
  have KF1 : (KF w).In s₁.heap := fun a o e => KX a o (lookup_keep e).1
  have hf : mg (Str.ofString "law") = some (.ref 319) := mg_of KF1 T.g (by kernel_rfl)
  have hmg' : mg (Str.ofString "law") = some (.ref fa) := hmg
  rw [hf] at hmg'
  obtain rfl : (319 : Addr) = fa := by injection hmg' with q; injection q
  refine law_top KX TX hg hL hI (by omega) ?_
  intro s' hO hos hgens
  refine ⟨.inl ⟨_, _, [], rfl, fun _ => rfl, ReadsW.bool true, ?_, fun _ => ⟨List.nodup_nil, fun _ hm => (nomatch hm)⟩⟩, hO, hos, hgens⟩
  first | rfl | wrow_post
end
end Mine
theorem PySem.Challenge.cw_xc0037_01_holds : PySem.Challenge.rw_xc0037_01.Holds := by
  exact Mine.holds
