import PyProof.Rows.All
import Wide.All
import OpenK.AllK
import Wide.FinOn
import PySem.Challenge.RW_ph0075_01
set_option Elab.async false
set_option maxRecDepth 100000
set_option linter.unusedVariables false
set_option bootstrap.genMatcherCode false
section
open PySem PySem.W PyProof.Rows
set_option maxHeartbeats 0
namespace Mine
noncomputable def fnA : Stmt → Arguments
  | .FunctionDef _ x _ _ _ _ _ _ _ _ => x
  | _ => { posonlyargs := [], args := [], vararg := none, kwonlyargs := [], kw_defaults := [], kwarg := none, defaults := [] }
noncomputable def fnB : Stmt → List Stmt
  | .FunctionDef _ _ x _ _ _ _ _ _ _ => x
  | .ClassDef _ _ _ x _ _ _ _ _ _ _ => x
  | _ => []
noncomputable def fnS : Stmt → Scope
  | .FunctionDef _ _ _ _ _ _ x _ _ _ => x
  | _ => { kind := .function, names := [], isGenerator := false, isCoroutine := false }
noncomputable def atS : List Stmt → Nat → Stmt
  | s :: _, 0 => s
  | _ :: l, k + 1 => atS l k
  | [], _ => .Pass ⟨0, 0, 0, 0⟩
noncomputable def topS (k : Nat) : Stmt := atS PySem.Challenge.pw_ph0075_01.main.body k
noncomputable def metS (k : Nat) : Stmt := atS (fnB (topS 3)) k
noncomputable def kheap : Params → Frag := fun P => [(2, { cls := Value.none, data := Data.dict #[] }), (3, { cls := Value.type "dict", data := Data.dict #[{ hash := PyData.keyHash P (Str.ofString "__name__"), key := Value.str (Str.ofString "__name__") 165, val := Value.str (Str.ofString "law_ph0075_01") 379 }, { hash := PyData.keyHash P (Str.ofString "__doc__"), key := Value.str (Str.ofString "__doc__") 166, val := Value.none }, { hash := PyData.keyHash P (Str.ofString "__package__"), key := Value.str (Str.ofString "__package__") 167, val := Value.none }, { hash := PyData.keyHash P (Str.ofString "__loader__"), key := Value.str (Str.ofString "__loader__") 168, val := Value.builtin "__main__.__loader__#opaque" }, { hash := PyData.keyHash P (Str.ofString "__spec__"), key := Value.str (Str.ofString "__spec__") 169, val := Value.none }, { hash := PyData.keyHash P (Str.ofString "__annotations__"), key := Value.str (Str.ofString "__annotations__") 170, val := Value.ref 6 }, { hash := PyData.keyHash P (Str.ofString "__builtins__"), key := Value.str (Str.ofString "__builtins__") 171, val := Value.ref 4 }, { hash := PyData.keyHash P (Str.ofString "__file__"), key := Value.str (Str.ofString "__file__") 173, val := Value.str (Str.ofString "/claim/cut.py") 172 }, { hash := PyData.keyHash P (Str.ofString "__cached__"), key := Value.str (Str.ofString "__cached__") 174, val := Value.none }, { hash := PyData.keyHash P (Str.ofString "_wall"), key := Value.str (Str.ofString "_wall") 193, val := Value.ref 21 }, { hash := PyData.keyHash P (Str.ofString "EMPTYSTRING"), key := Value.str (Str.ofString "EMPTYSTRING") 197, val := Value.str (Str.ofString "") 196 }, { hash := PyData.keyHash P (Str.ofString "_Accumulator"), key := Value.str (Str.ofString "_Accumulator") 293, val := Value.ref 101 }, { hash := PyData.keyHash P (Str.ofString "S_IFMT"), key := Value.str (Str.ofString "S_IFMT") 302, val := Value.ref 112 }, { hash := PyData.keyHash P (Str.ofString "S_IFDIR"), key := Value.str (Str.ofString "S_IFDIR") 304, val := Value.int 16384 303 }, { hash := PyData.keyHash P (Str.ofString "S_IFCHR"), key := Value.str (Str.ofString "S_IFCHR") 306, val := Value.int 8192 305 }, { hash := PyData.keyHash P (Str.ofString "S_IFBLK"), key := Value.str (Str.ofString "S_IFBLK") 308, val := Value.int 24576 307 }, { hash := PyData.keyHash P (Str.ofString "S_IFREG"), key := Value.str (Str.ofString "S_IFREG") 310, val := Value.int 32768 309 }, { hash := PyData.keyHash P (Str.ofString "S_IFIFO"), key := Value.str (Str.ofString "S_IFIFO") 312, val := Value.int 4096 311 }, { hash := PyData.keyHash P (Str.ofString "S_IFLNK"), key := Value.str (Str.ofString "S_IFLNK") 314, val := Value.int 40960 313 }, { hash := PyData.keyHash P (Str.ofString "S_IFSOCK"), key := Value.str (Str.ofString "S_IFSOCK") 316, val := Value.int 49152 315 }, { hash := PyData.keyHash P (Str.ofString "S_ISUID"), key := Value.str (Str.ofString "S_ISUID") 318, val := Value.int 2048 317 }, { hash := PyData.keyHash P (Str.ofString "S_ISGID"), key := Value.str (Str.ofString "S_ISGID") 320, val := Value.int 1024 319 }, { hash := PyData.keyHash P (Str.ofString "S_ISVTX"), key := Value.str (Str.ofString "S_ISVTX") 322, val := Value.int 512 321 }, { hash := PyData.keyHash P (Str.ofString "S_IRUSR"), key := Value.str (Str.ofString "S_IRUSR") 324, val := Value.int 256 323 }, { hash := PyData.keyHash P (Str.ofString "S_IWUSR"), key := Value.str (Str.ofString "S_IWUSR") 326, val := Value.int 128 325 }, { hash := PyData.keyHash P (Str.ofString "S_IXUSR"), key := Value.str (Str.ofString "S_IXUSR") 328, val := Value.int 64 327 }, { hash := PyData.keyHash P (Str.ofString "S_IRGRP"), key := Value.str (Str.ofString "S_IRGRP") 330, val := Value.int 32 329 }, { hash := PyData.keyHash P (Str.ofString "S_IWGRP"), key := Value.str (Str.ofString "S_IWGRP") 332, val := Value.int 16 331 }, { hash := PyData.keyHash P (Str.ofString "S_IXGRP"), key := Value.str (Str.ofString "S_IXGRP") 334, val := Value.int 8 333 }, { hash := PyData.keyHash P (Str.ofString "S_IROTH"), key := Value.str (Str.ofString "S_IROTH") 336, val := Value.int 4 335 }, { hash := PyData.keyHash P (Str.ofString "S_IWOTH"), key := Value.str (Str.ofString "S_IWOTH") 338, val := Value.int 2 337 }, { hash := PyData.keyHash P (Str.ofString "S_IXOTH"), key := Value.str (Str.ofString "S_IXOTH") 340, val := Value.int 1 339 }, { hash := PyData.keyHash P (Str.ofString "_filemode_table"), key := Value.str (Str.ofString "_filemode_table") 366, val := Value.ref 145 }, { hash := PyData.keyHash P (Str.ofString "filemode"), key := Value.str (Str.ofString "filemode") 378, val := Value.ref 152 }, { hash := PyData.keyHash P (Str.ofString "_law_modes"), key := Value.str (Str.ofString "_law_modes") 386, val := Value.ref 157 }, { hash := PyData.keyHash P (Str.ofString "_law_row"), key := Value.str (Str.ofString "_law_row") 396, val := Value.ref 164 }, { hash := PyData.keyHash P (Str.ofString "_law_next"), key := Value.str (Str.ofString "_law_next") 405, val := Value.ref 171 }, { hash := PyData.keyHash P (Str.ofString "_law_worth"), key := Value.str (Str.ofString "_law_worth") 411, val := Value.ref 176 }, { hash := PyData.keyHash P (Str.ofString "_law_kind"), key := Value.str (Str.ofString "_law_kind") 418, val := Value.ref 183 }, { hash := PyData.keyHash P (Str.ofString "_law_forth"), key := Value.str (Str.ofString "_law_forth") 431, val := Value.ref 190 }, { hash := PyData.keyHash P (Str.ofString "_law_back"), key := Value.str (Str.ofString "_law_back") 437, val := Value.ref 195 }, { hash := PyData.keyHash P (Str.ofString "law"), key := Value.str (Str.ofString "law") 443, val := Value.ref 200 }] 42 }), (15, { cls := Value.type "tuple", data := Data.seq #[] }), (17, { cls := Value.type "tuple", data := Data.seq #[Value.str (Str.ofString "k") 190] }), (18, { cls := Value.type "tuple", data := Data.seq #[] }), (20, { cls := Value.type "code", data := Data.fields #[Value.str (Str.ofString "_wall") 187, Value.str (Str.ofString "_wall") 188, Value.str (Str.ofString "/claim/cut.py") 189, Value.int 1 0, Value.int 1 0, Value.int 0 0, Value.int 0 0, Value.int 3 0, Value.ref 15, Value.bool Bool.true, Value.int 181 0, Value.ref 16, Value.none, Value.ref 17, Value.ref 18, Value.ref 19, Value.int 191 0, Value.int 1 0, Value.str (Str.ofString "/claim/cut.py") 192] }), (21, { cls := Value.type "function", data := Data.func { name := Str.ofString "_wall", qualname := Str.ofString "_wall", params := fnA (topS 0), body := FuncBody.stmts (fnB (topS 0)), scope := fnS (topS 0), globals := 3, closure := [], defaults := Value.none, kwdefaults := Value.none, pyModule := Value.str (Str.ofString "__main__") 164, code := Value.ref 20 } }), (22, { cls := Value.type "tuple", data := Data.seq #[Value.type "list"] }), (25, { cls := Value.type "cell", data := Data.cell (Option.some (Value.ref 101)) }), (30, { cls := Value.type "tuple", data := Data.seq #[Value.int 0 210] }), (31, { cls := Value.type "tuple", data := Data.seq #[Value.ref 25] }), (32, { cls := Value.type "tuple", data := Data.seq #[Value.str (Str.ofString "__class__") 214] }), (34, { cls := Value.type "tuple", data := Data.seq #[Value.str (Str.ofString "self") 215, Value.str (Str.ofString "initial_size") 216] }), (35, { cls := Value.type "tuple", data := Data.seq #[] }), (37, { cls := Value.type "code", data := Data.fields #[Value.str (Str.ofString "__init__") 211, Value.str (Str.ofString "_Accumulator.__init__") 212, Value.str (Str.ofString "/claim/cut.py") 213, Value.int 8 0, Value.int 2 0, Value.int 0 0, Value.int 0 0, Value.int 3 0, Value.ref 32, Value.bool Bool.true, Value.int 181 0, Value.ref 33, Value.none, Value.ref 34, Value.ref 35, Value.ref 36, Value.int 217 0, Value.int 8 0, Value.str (Str.ofString "/claim/cut.py") 218] }), (38, { cls := Value.type "function", data := Data.func { name := Str.ofString "__init__", qualname := Str.ofString "_Accumulator.__init__", params := fnA (metS 0), body := FuncBody.stmts (fnB (metS 0)), scope := fnS (metS 0), globals := 3, closure := [(Str.ofString "__class__", 25)], defaults := Value.ref 30, kwdefaults := Value.none, pyModule := Value.str (Str.ofString "cpy313.email.header") 194, code := Value.ref 37, closureTuple := Value.ref 31 } }), (39, { cls := Value.type "tuple", data := Data.seq #[] }), (41, { cls := Value.type "tuple", data := Data.seq #[Value.str (Str.ofString "self") 223, Value.str (Str.ofString "fws") 224, Value.str (Str.ofString "string") 225] }), (42, { cls := Value.type "tuple", data := Data.seq #[] }), (44, { cls := Value.type "code", data := Data.fields #[Value.str (Str.ofString "push") 220, Value.str (Str.ofString "_Accumulator.push") 221, Value.str (Str.ofString "/claim/cut.py") 222, Value.int 12 0, Value.int 3 0, Value.int 0 0, Value.int 0 0, Value.int 3 0, Value.ref 39, Value.bool Bool.true, Value.int 181 0, Value.ref 40, Value.none, Value.ref 41, Value.ref 42, Value.ref 43, Value.int 226 0, Value.int 12 0, Value.str (Str.ofString "/claim/cut.py") 227] }), (45, { cls := Value.type "function", data := Data.func { name := Str.ofString "push", qualname := Str.ofString "_Accumulator.push", params := fnA (metS 1), body := FuncBody.stmts (fnB (metS 1)), scope := fnS (metS 1), globals := 3, closure := [], defaults := Value.none, kwdefaults := Value.none, pyModule := Value.str (Str.ofString "cpy313.email.header") 194, code := Value.ref 44 } }), (46, { cls := Value.type "tuple", data := Data.seq #[Value.int 0 229] }), (47, { cls := Value.type "tuple", data := Data.seq #[] }), (49, { cls := Value.type "tuple", data := Data.seq #[Value.str (Str.ofString "self") 233, Value.str (Str.ofString "i") 234, Value.str (Str.ofString "popped") 235] }), (50, { cls := Value.type "tuple", data := Data.seq #[] }), (52, { cls := Value.type "code", data := Data.fields #[Value.str (Str.ofString "pop_from") 230, Value.str (Str.ofString "_Accumulator.pop_from") 231, Value.str (Str.ofString "/claim/cut.py") 232, Value.int 15 0, Value.int 2 0, Value.int 0 0, Value.int 0 0, Value.int 3 0, Value.ref 47, Value.bool Bool.true, Value.int 181 0, Value.ref 48, Value.none, Value.ref 49, Value.ref 50, Value.ref 51, Value.int 236 0, Value.int 15 0, Value.str (Str.ofString "/claim/cut.py") 237] }), (53, { cls := Value.type "function", data := Data.func { name := Str.ofString "pop_from", qualname := Str.ofString "_Accumulator.pop_from", params := fnA (metS 2), body := FuncBody.stmts (fnB (metS 2)), scope := fnS (metS 2), globals := 3, closure := [], defaults := Value.ref 46, kwdefaults := Value.none, pyModule := Value.str (Str.ofString "cpy313.email.header") 194, code := Value.ref 52 } }), (54, { cls := Value.type "tuple", data := Data.seq #[Value.ref 25] }), (55, { cls := Value.type "tuple", data := Data.seq #[Value.str (Str.ofString "__class__") 242] }), (57, { cls := Value.type "tuple", data := Data.seq #[Value.str (Str.ofString "self") 243] }), (58, { cls := Value.type "tuple", data := Data.seq #[] }), (60, { cls := Value.type "code", data := Data.fields #[Value.str (Str.ofString "pop") 239, Value.str (Str.ofString "_Accumulator.pop") 240, Value.str (Str.ofString "/claim/cut.py") 241, Value.int 20 0, Value.int 1 0, Value.int 0 0, Value.int 0 0, Value.int 3 0, Value.ref 55, Value.bool Bool.true, Value.int 181 0, Value.ref 56, Value.none, Value.ref 57, Value.ref 58, Value.ref 59, Value.int 244 0, Value.int 20 0, Value.str (Str.ofString "/claim/cut.py") 245] }), (61, { cls := Value.type "function", data := Data.func { name := Str.ofString "pop", qualname := Str.ofString "_Accumulator.pop", params := fnA (metS 3), body := FuncBody.stmts (fnB (metS 3)), scope := fnS (metS 3), globals := 3, closure := [(Str.ofString "__class__", 25)], defaults := Value.none, kwdefaults := Value.none, pyModule := Value.str (Str.ofString "cpy313.email.header") 194, code := Value.ref 60, closureTuple := Value.ref 54 } }), (62, { cls := Value.type "tuple", data := Data.seq #[] }), (64, { cls := Value.type "tuple", data := Data.seq #[Value.str (Str.ofString "self") 250] }), (65, { cls := Value.type "tuple", data := Data.seq #[] }), (67, { cls := Value.type "code", data := Data.fields #[Value.str (Str.ofString "__len__") 247, Value.str (Str.ofString "_Accumulator.__len__") 248, Value.str (Str.ofString "/claim/cut.py") 249, Value.int 25 0, Value.int 1 0, Value.int 0 0, Value.int 0 0, Value.int 3 0, Value.ref 62, Value.bool Bool.true, Value.int 181 0, Value.ref 63, Value.none, Value.ref 64, Value.ref 65, Value.ref 66, Value.int 251 0, Value.int 25 0, Value.str (Str.ofString "/claim/cut.py") 252] }), (68, { cls := Value.type "function", data := Data.func { name := Str.ofString "__len__", qualname := Str.ofString "_Accumulator.__len__", params := fnA (metS 4), body := FuncBody.stmts (fnB (metS 4)), scope := fnS (metS 4), globals := 3, closure := [], defaults := Value.none, kwdefaults := Value.none, pyModule := Value.str (Str.ofString "cpy313.email.header") 194, code := Value.ref 67 } }), (69, { cls := Value.type "tuple", data := Data.seq #[] }), (71, { cls := Value.type "tuple", data := Data.seq #[Value.str (Str.ofString "self") 257] }), (72, { cls := Value.type "tuple", data := Data.seq #[] }), (74, { cls := Value.type "code", data := Data.fields #[Value.str (Str.ofString "__str__") 254, Value.str (Str.ofString "_Accumulator.__str__") 255, Value.str (Str.ofString "/claim/cut.py") 256, Value.int 28 0, Value.int 1 0, Value.int 0 0, Value.int 0 0, Value.int 3 0, Value.ref 69, Value.bool Bool.true, Value.int 181 0, Value.ref 70, Value.none, Value.ref 71, Value.ref 72, Value.ref 73, Value.int 258 0, Value.int 28 0, Value.str (Str.ofString "/claim/cut.py") 259] }), (75, { cls := Value.type "function", data := Data.func { name := Str.ofString "__str__", qualname := Str.ofString "_Accumulator.__str__", params := fnA (metS 5), body := FuncBody.stmts (fnB (metS 5)), scope := fnS (metS 5), globals := 3, closure := [], defaults := Value.none, kwdefaults := Value.none, pyModule := Value.str (Str.ofString "cpy313.email.header") 194, code := Value.ref 74 } }), (76, { cls := Value.type "tuple", data := Data.seq #[Value.none] }), (77, { cls := Value.type "tuple", data := Data.seq #[] }), (79, { cls := Value.type "tuple", data := Data.seq #[Value.str (Str.ofString "self") 264, Value.str (Str.ofString "startval") 265] }), (80, { cls := Value.type "tuple", data := Data.seq #[] }), (82, { cls := Value.type "code", data := Data.fields #[Value.str (Str.ofString "reset") 261, Value.str (Str.ofString "_Accumulator.reset") 262, Value.str (Str.ofString "/claim/cut.py") 263, Value.int 31 0, Value.int 2 0, Value.int 0 0, Value.int 0 0, Value.int 3 0, Value.ref 77, Value.bool Bool.true, Value.int 181 0, Value.ref 78, Value.none, Value.ref 79, Value.ref 80, Value.ref 81, Value.int 266 0, Value.int 31 0, Value.str (Str.ofString "/claim/cut.py") 267] }), (83, { cls := Value.type "function", data := Data.func { name := Str.ofString "reset", qualname := Str.ofString "_Accumulator.reset", params := fnA (metS 6), body := FuncBody.stmts (fnB (metS 6)), scope := fnS (metS 6), globals := 3, closure := [], defaults := Value.ref 76, kwdefaults := Value.none, pyModule := Value.str (Str.ofString "cpy313.email.header") 194, code := Value.ref 82 } }), (84, { cls := Value.type "tuple", data := Data.seq #[] }), (86, { cls := Value.type "tuple", data := Data.seq #[Value.str (Str.ofString "self") 272] }), (87, { cls := Value.type "tuple", data := Data.seq #[] }), (89, { cls := Value.type "code", data := Data.fields #[Value.str (Str.ofString "is_onlyws") 269, Value.str (Str.ofString "_Accumulator.is_onlyws") 270, Value.str (Str.ofString "/claim/cut.py") 271, Value.int 34 0, Value.int 1 0, Value.int 0 0, Value.int 0 0, Value.int 3 0, Value.ref 84, Value.bool Bool.true, Value.int 181 0, Value.ref 85, Value.none, Value.ref 86, Value.ref 87, Value.ref 88, Value.int 273 0, Value.int 34 0, Value.str (Str.ofString "/claim/cut.py") 274] }), (90, { cls := Value.type "function", data := Data.func { name := Str.ofString "is_onlyws", qualname := Str.ofString "_Accumulator.is_onlyws", params := fnA (metS 7), body := FuncBody.stmts (fnB (metS 7)), scope := fnS (metS 7), globals := 3, closure := [], defaults := Value.none, kwdefaults := Value.none, pyModule := Value.str (Str.ofString "cpy313.email.header") 194, code := Value.ref 89 } }), (91, { cls := Value.type "tuple", data := Data.seq #[Value.ref 25] }), (92, { cls := Value.type "tuple", data := Data.seq #[Value.str (Str.ofString "__class__") 279] }), (94, { cls := Value.type "tuple", data := Data.seq #[Value.str (Str.ofString "self") 280] }), (95, { cls := Value.type "tuple", data := Data.seq #[] }), (97, { cls := Value.type "code", data := Data.fields #[Value.str (Str.ofString "part_count") 276, Value.str (Str.ofString "_Accumulator.part_count") 277, Value.str (Str.ofString "/claim/cut.py") 278, Value.int 37 0, Value.int 1 0, Value.int 0 0, Value.int 0 0, Value.int 3 0, Value.ref 92, Value.bool Bool.true, Value.int 181 0, Value.ref 93, Value.none, Value.ref 94, Value.ref 95, Value.ref 96, Value.int 281 0, Value.int 37 0, Value.str (Str.ofString "/claim/cut.py") 282] }), (98, { cls := Value.type "function", data := Data.func { name := Str.ofString "part_count", qualname := Str.ofString "_Accumulator.part_count", params := fnA (metS 8), body := FuncBody.stmts (fnB (metS 8)), scope := fnS (metS 8), globals := 3, closure := [(Str.ofString "__class__", 25)], defaults := Value.none, kwdefaults := Value.none, pyModule := Value.str (Str.ofString "cpy313.email.header") 194, code := Value.ref 97, closureTuple := Value.ref 91 } }), (99, { cls := Value.type "tuple", data := Data.seq #[Value.str (Str.ofString "_initial_size") 284] }), (100, { cls := Value.type "dict", data := Data.dict #[{ hash := PyData.keyHash P (Str.ofString "__module__"), key := Value.str (Str.ofString "__module__") 205, val := Value.str (Str.ofString "cpy313.email.header") 194 }, { hash := PyData.keyHash P (Str.ofString "__firstlineno__"), key := Value.str (Str.ofString "__firstlineno__") 209, val := Value.int 6 208 }, { hash := PyData.keyHash P (Str.ofString "__init__"), key := Value.str (Str.ofString "__init__") 219, val := Value.ref 38 }, { hash := PyData.keyHash P (Str.ofString "push"), key := Value.str (Str.ofString "push") 228, val := Value.ref 45 }, { hash := PyData.keyHash P (Str.ofString "pop_from"), key := Value.str (Str.ofString "pop_from") 238, val := Value.ref 53 }, { hash := PyData.keyHash P (Str.ofString "pop"), key := Value.str (Str.ofString "pop") 246, val := Value.ref 61 }, { hash := PyData.keyHash P (Str.ofString "__len__"), key := Value.str (Str.ofString "__len__") 253, val := Value.ref 68 }, { hash := PyData.keyHash P (Str.ofString "__str__"), key := Value.str (Str.ofString "__str__") 260, val := Value.ref 75 }, { hash := PyData.keyHash P (Str.ofString "reset"), key := Value.str (Str.ofString "reset") 268, val := Value.ref 83 }, { hash := PyData.keyHash P (Str.ofString "is_onlyws"), key := Value.str (Str.ofString "is_onlyws") 275, val := Value.ref 90 }, { hash := PyData.keyHash P (Str.ofString "part_count"), key := Value.str (Str.ofString "part_count") 283, val := Value.ref 98 }, { hash := PyData.keyHash P (Str.ofString "__static_attributes__"), key := Value.str (Str.ofString "__static_attributes__") 285, val := Value.ref 99 }, { hash := PyData.keyHash P (Str.ofString "__dict__"), key := Value.str (Str.ofString "__dict__") 288, val := Value.ref 102 }, { hash := PyData.keyHash P (Str.ofString "__weakref__"), key := Value.str (Str.ofString "__weakref__") 290, val := Value.ref 103 }, { hash := PyData.keyHash P (Str.ofString "__doc__"), key := Value.str (Str.ofString "__doc__") 291, val := Value.none }] 5 }), (101, { cls := Value.type "type", data := Data.cls { name := Str.ofString "_Accumulator", bases := [Value.type "list"], mro := [Value.ref 101, Value.type "list", Value.type "object"], ns := 100, qualname := Str.ofString "_Accumulator" }, slots := #[Option.some (Value.ref 22), Option.none, Option.some (Value.str (Str.ofString "_Accumulator") 198), Option.some (Value.str (Str.ofString "_Accumulator") 206), Option.some (Value.builtin "list.__new__"), Option.some (Value.bool Bool.true)] }), (102, { cls := Value.type "getset_descriptor", data := Data.fields #[Value.str (Str.ofString "__dict__") 287, Value.ref 101, Value.builtin "function.__dict__", Value.builtin "function.__dict__#set"] }), (103, { cls := Value.type "getset_descriptor", data := Data.fields #[Value.str (Str.ofString "__weakref__") 289, Value.ref 101, Value.builtin "ExceptionGroup.__weakref__", Value.none] }), (106, { cls := Value.type "tuple", data := Data.seq #[] }), (108, { cls := Value.type "tuple", data := Data.seq #[Value.str (Str.ofString "mode") 299] }), (109, { cls := Value.type "tuple", data := Data.seq #[] }), (111, { cls := Value.type "code", data := Data.fields #[Value.str (Str.ofString "S_IFMT") 296, Value.str (Str.ofString "S_IFMT") 297, Value.str (Str.ofString "/claim/cut.py") 298, Value.int 40 0, Value.int 1 0, Value.int 0 0, Value.int 0 0, Value.int 3 0, Value.ref 106, Value.bool Bool.true, Value.int 181 0, Value.ref 107, Value.none, Value.ref 108, Value.ref 109, Value.ref 110, Value.int 300 0, Value.int 40 0, Value.str (Str.ofString "/claim/cut.py") 301] }), (112, { cls := Value.type "function", data := Data.func { name := Str.ofString "S_IFMT", qualname := Str.ofString "S_IFMT", params := fnA (topS 5), body := FuncBody.stmts (fnB (topS 5)), scope := fnS (topS 5), globals := 3, closure := [], defaults := Value.none, kwdefaults := Value.none, pyModule := Value.str (Str.ofString "cpy313.stat") 294, code := Value.ref 111 } }), (113, { cls := Value.type "tuple", data := Data.seq #[Value.int 40960 313, Value.str (Str.ofString "l") 341] }), (114, { cls := Value.type "tuple", data := Data.seq #[Value.int 49152 315, Value.str (Str.ofString "s") 342] }), (115, { cls := Value.type "tuple", data := Data.seq #[Value.int 32768 309, Value.str (Str.ofString "-") 343] }), (116, { cls := Value.type "tuple", data := Data.seq #[Value.int 24576 307, Value.str (Str.ofString "b") 344] }), (117, { cls := Value.type "tuple", data := Data.seq #[Value.int 16384 303, Value.str (Str.ofString "d") 345] }), (118, { cls := Value.type "tuple", data := Data.seq #[Value.int 8192 305, Value.str (Str.ofString "c") 346] }), (119, { cls := Value.type "tuple", data := Data.seq #[Value.int 4096 311, Value.str (Str.ofString "p") 347] }), (120, { cls := Value.type "tuple", data := Data.seq #[Value.ref 113, Value.ref 114, Value.ref 115, Value.ref 116, Value.ref 117, Value.ref 118, Value.ref 119] }), (121, { cls := Value.type "tuple", data := Data.seq #[Value.int 256 323, Value.str (Str.ofString "r") 348] }), (122, { cls := Value.type "tuple", data := Data.seq #[Value.ref 121] }), (123, { cls := Value.type "tuple", data := Data.seq #[Value.int 128 325, Value.str (Str.ofString "w") 349] }), (124, { cls := Value.type "tuple", data := Data.seq #[Value.ref 123] }), (125, { cls := Value.type "tuple", data := Data.seq #[Value.int 2112 350, Value.str (Str.ofString "s") 351] }), (126, { cls := Value.type "tuple", data := Data.seq #[Value.int 2048 317, Value.str (Str.ofString "S") 352] }), (127, { cls := Value.type "tuple", data := Data.seq #[Value.int 64 327, Value.str (Str.ofString "x") 353] }), (128, { cls := Value.type "tuple", data := Data.seq #[Value.ref 125, Value.ref 126, Value.ref 127] }), (129, { cls := Value.type "tuple", data := Data.seq #[Value.int 32 329, Value.str (Str.ofString "r") 354] }), (130, { cls := Value.type "tuple", data := Data.seq #[Value.ref 129] }), (131, { cls := Value.type "tuple", data := Data.seq #[Value.int 16 331, Value.str (Str.ofString "w") 355] }), (132, { cls := Value.type "tuple", data := Data.seq #[Value.ref 131] }), (133, { cls := Value.type "tuple", data := Data.seq #[Value.int 1032 356, Value.str (Str.ofString "s") 357] }), (134, { cls := Value.type "tuple", data := Data.seq #[Value.int 1024 319, Value.str (Str.ofString "S") 358] }), (135, { cls := Value.type "tuple", data := Data.seq #[Value.int 8 333, Value.str (Str.ofString "x") 359] }), (136, { cls := Value.type "tuple", data := Data.seq #[Value.ref 133, Value.ref 134, Value.ref 135] }), (137, { cls := Value.type "tuple", data := Data.seq #[Value.int 4 335, Value.str (Str.ofString "r") 360] }), (138, { cls := Value.type "tuple", data := Data.seq #[Value.ref 137] }), (139, { cls := Value.type "tuple", data := Data.seq #[Value.int 2 337, Value.str (Str.ofString "w") 361] }), (140, { cls := Value.type "tuple", data := Data.seq #[Value.ref 139] }), (141, { cls := Value.type "tuple", data := Data.seq #[Value.int 513 362, Value.str (Str.ofString "t") 363] }), (142, { cls := Value.type "tuple", data := Data.seq #[Value.int 512 321, Value.str (Str.ofString "T") 364] }), (143, { cls := Value.type "tuple", data := Data.seq #[Value.int 1 339, Value.str (Str.ofString "x") 365] }), (144, { cls := Value.type "tuple", data := Data.seq #[Value.ref 141, Value.ref 142, Value.ref 143] }), (145, { cls := Value.type "tuple", data := Data.seq #[Value.ref 120, Value.ref 122, Value.ref 124, Value.ref 128, Value.ref 130, Value.ref 132, Value.ref 136, Value.ref 138, Value.ref 140, Value.ref 144] }), (146, { cls := Value.type "tuple", data := Data.seq #[] }), (148, { cls := Value.type "tuple", data := Data.seq #[Value.str (Str.ofString "mode") 370, Value.str (Str.ofString "perm") 371, Value.str (Str.ofString "index") 372, Value.str (Str.ofString "table") 373, Value.str (Str.ofString "bit") 374, Value.str (Str.ofString "char") 375] }), (149, { cls := Value.type "tuple", data := Data.seq #[] }), (151, { cls := Value.type "code", data := Data.fields #[Value.str (Str.ofString "filemode") 367, Value.str (Str.ofString "filemode") 368, Value.str (Str.ofString "/claim/cut.py") 369, Value.int 62 0, Value.int 1 0, Value.int 0 0, Value.int 0 0, Value.int 3 0, Value.ref 146, Value.bool Bool.true, Value.int 181 0, Value.ref 147, Value.none, Value.ref 148, Value.ref 149, Value.ref 150, Value.int 376 0, Value.int 62 0, Value.str (Str.ofString "/claim/cut.py") 377] }), (152, { cls := Value.type "function", data := Data.func { name := Str.ofString "filemode", qualname := Str.ofString "filemode", params := fnA (topS 26), body := FuncBody.stmts (fnB (topS 26)), scope := fnS (topS 26), globals := 3, closure := [], defaults := Value.none, kwdefaults := Value.none, pyModule := Value.str (Str.ofString "cpy313.stat") 294, code := Value.ref 151 } }), (153, { cls := Value.type "tuple", data := Data.seq #[] }), (156, { cls := Value.type "code", data := Data.fields #[Value.str (Str.ofString "_law_modes") 381, Value.str (Str.ofString "_law_modes") 382, Value.str (Str.ofString "/claim/cut.py") 383, Value.int 80 0, Value.int 1 0, Value.int 0 0, Value.int 0 0, Value.int 3 0, Value.ref 153, Value.bool Bool.true, Value.int 181 0, Value.ref 154, Value.none, Value.none, Value.none, Value.ref 155, Value.int 384 0, Value.int 80 0, Value.str (Str.ofString "/claim/cut.py") 385] }), (157, { cls := Value.type "function", data := Data.func { name := Str.ofString "_law_modes", qualname := Str.ofString "_law_modes", params := fnA (topS 28), body := FuncBody.stmts (fnB (topS 28)), scope := fnS (topS 28), globals := 3, closure := [], defaults := Value.none, kwdefaults := Value.none, pyModule := Value.str (Str.ofString "law_ph0075_01") 379, code := Value.ref 156 } }), (158, { cls := Value.type "tuple", data := Data.seq #[] }), (160, { cls := Value.type "tuple", data := Data.seq #[Value.str (Str.ofString "mode") 390, Value.str (Str.ofString "row") 391, Value.str (Str.ofString "q") 392, Value.str (Str.ofString "rights") 393] }), (161, { cls := Value.type "tuple", data := Data.seq #[] }), (163, { cls := Value.type "code", data := Data.fields #[Value.str (Str.ofString "_law_row") 387, Value.str (Str.ofString "_law_row") 388, Value.str (Str.ofString "/claim/cut.py") 389, Value.int 84 0, Value.int 1 0, Value.int 0 0, Value.int 0 0, Value.int 3 0, Value.ref 158, Value.bool Bool.true, Value.int 181 0, Value.ref 159, Value.none, Value.ref 160, Value.ref 161, Value.ref 162, Value.int 394 0, Value.int 84 0, Value.str (Str.ofString "/claim/cut.py") 395] }), (164, { cls := Value.type "function", data := Data.func { name := Str.ofString "_law_row", qualname := Str.ofString "_law_row", params := fnA (topS 29), body := FuncBody.stmts (fnB (topS 29)), scope := fnS (topS 29), globals := 3, closure := [], defaults := Value.none, kwdefaults := Value.none, pyModule := Value.str (Str.ofString "law_ph0075_01") 379, code := Value.ref 163 } }), (165, { cls := Value.type "tuple", data := Data.seq #[] }), (167, { cls := Value.type "tuple", data := Data.seq #[Value.str (Str.ofString "mode") 400, Value.str (Str.ofString "q") 401, Value.str (Str.ofString "rights") 402] }), (168, { cls := Value.type "tuple", data := Data.seq #[] }), (170, { cls := Value.type "code", data := Data.fields #[Value.str (Str.ofString "_law_next") 397, Value.str (Str.ofString "_law_next") 398, Value.str (Str.ofString "/claim/cut.py") 399, Value.int 91 0, Value.int 2 0, Value.int 0 0, Value.int 0 0, Value.int 3 0, Value.ref 165, Value.bool Bool.true, Value.int 181 0, Value.ref 166, Value.none, Value.ref 167, Value.ref 168, Value.ref 169, Value.int 403 0, Value.int 91 0, Value.str (Str.ofString "/claim/cut.py") 404] }), (171, { cls := Value.type "function", data := Data.func { name := Str.ofString "_law_next", qualname := Str.ofString "_law_next", params := fnA (topS 30), body := FuncBody.stmts (fnB (topS 30)), scope := fnS (topS 30), globals := 3, closure := [], defaults := Value.none, kwdefaults := Value.none, pyModule := Value.str (Str.ofString "law_ph0075_01") 379, code := Value.ref 170 } }), (172, { cls := Value.type "tuple", data := Data.seq #[] }), (175, { cls := Value.type "code", data := Data.fields #[Value.str (Str.ofString "_law_worth") 406, Value.str (Str.ofString "_law_worth") 407, Value.str (Str.ofString "/claim/cut.py") 408, Value.int 94 0, Value.int 1 0, Value.int 0 0, Value.int 0 0, Value.int 3 0, Value.ref 172, Value.bool Bool.true, Value.int 181 0, Value.ref 173, Value.none, Value.none, Value.none, Value.ref 174, Value.int 409 0, Value.int 94 0, Value.str (Str.ofString "/claim/cut.py") 410] }), (176, { cls := Value.type "function", data := Data.func { name := Str.ofString "_law_worth", qualname := Str.ofString "_law_worth", params := fnA (topS 31), body := FuncBody.stmts (fnB (topS 31)), scope := fnS (topS 31), globals := 3, closure := [], defaults := Value.none, kwdefaults := Value.none, pyModule := Value.str (Str.ofString "law_ph0075_01") 379, code := Value.ref 175 } }), (177, { cls := Value.type "tuple", data := Data.seq #[] }), (179, { cls := Value.type "tuple", data := Data.seq #[Value.str (Str.ofString "piece") 415] }), (180, { cls := Value.type "tuple", data := Data.seq #[] }), (182, { cls := Value.type "code", data := Data.fields #[Value.str (Str.ofString "_law_kind") 412, Value.str (Str.ofString "_law_kind") 413, Value.str (Str.ofString "/claim/cut.py") 414, Value.int 97 0, Value.int 1 0, Value.int 0 0, Value.int 0 0, Value.int 3 0, Value.ref 177, Value.bool Bool.true, Value.int 181 0, Value.ref 178, Value.none, Value.ref 179, Value.ref 180, Value.ref 181, Value.int 416 0, Value.int 97 0, Value.str (Str.ofString "/claim/cut.py") 417] }), (183, { cls := Value.type "function", data := Data.func { name := Str.ofString "_law_kind", qualname := Str.ofString "_law_kind", params := fnA (topS 32), body := FuncBody.stmts (fnB (topS 32)), scope := fnS (topS 32), globals := 3, closure := [], defaults := Value.none, kwdefaults := Value.none, pyModule := Value.str (Str.ofString "law_ph0075_01") 379, code := Value.ref 182 } }), (184, { cls := Value.type "tuple", data := Data.seq #[] }), (186, { cls := Value.type "tuple", data := Data.seq #[Value.str (Str.ofString "turns") 422, Value.str (Str.ofString "tape") 423, Value.str (Str.ofString "near") 424, Value.str (Str.ofString "far") 425, Value.str (Str.ofString "state") 426, Value.str (Str.ofString "sign") 427, Value.str (Str.ofString "piece") 428] }), (187, { cls := Value.type "tuple", data := Data.seq #[] }), (189, { cls := Value.type "code", data := Data.fields #[Value.str (Str.ofString "_law_forth") 419, Value.str (Str.ofString "_law_forth") 420, Value.str (Str.ofString "/claim/cut.py") 421, Value.int 99 0, Value.int 2 0, Value.int 0 0, Value.int 0 0, Value.int 3 0, Value.ref 184, Value.bool Bool.true, Value.int 181 0, Value.ref 185, Value.none, Value.ref 186, Value.ref 187, Value.ref 188, Value.int 429 0, Value.int 99 0, Value.str (Str.ofString "/claim/cut.py") 430] }), (190, { cls := Value.type "function", data := Data.func { name := Str.ofString "_law_forth", qualname := Str.ofString "_law_forth", params := fnA (topS 33), body := FuncBody.stmts (fnB (topS 33)), scope := fnS (topS 33), globals := 3, closure := [], defaults := Value.none, kwdefaults := Value.none, pyModule := Value.str (Str.ofString "law_ph0075_01") 379, code := Value.ref 189 } }), (191, { cls := Value.type "tuple", data := Data.seq #[] }), (194, { cls := Value.type "code", data := Data.fields #[Value.str (Str.ofString "_law_back") 432, Value.str (Str.ofString "_law_back") 433, Value.str (Str.ofString "/claim/cut.py") 434, Value.int 108 0, Value.int 4 0, Value.int 0 0, Value.int 0 0, Value.int 3 0, Value.ref 191, Value.bool Bool.true, Value.int 181 0, Value.ref 192, Value.none, Value.none, Value.none, Value.ref 193, Value.int 435 0, Value.int 108 0, Value.str (Str.ofString "/claim/cut.py") 436] }), (195, { cls := Value.type "function", data := Data.func { name := Str.ofString "_law_back", qualname := Str.ofString "_law_back", params := fnA (topS 34), body := FuncBody.stmts (fnB (topS 34)), scope := fnS (topS 34), globals := 3, closure := [], defaults := Value.none, kwdefaults := Value.none, pyModule := Value.str (Str.ofString "law_ph0075_01") 379, code := Value.ref 194 } }), (196, { cls := Value.type "tuple", data := Data.seq #[] }), (199, { cls := Value.type "code", data := Data.fields #[Value.str (Str.ofString "law") 438, Value.str (Str.ofString "law") 439, Value.str (Str.ofString "/claim/cut.py") 440, Value.int 140 0, Value.int 1 0, Value.int 0 0, Value.int 0 0, Value.int 3 0, Value.ref 196, Value.bool Bool.true, Value.int 181 0, Value.ref 197, Value.none, Value.none, Value.none, Value.ref 198, Value.int 441 0, Value.int 140 0, Value.str (Str.ofString "/claim/cut.py") 442] }), (200, { cls := Value.type "function", data := Data.func { name := Str.ofString "law", qualname := Str.ofString "law", params := fnA (topS 35), body := FuncBody.stmts (fnB (topS 35)), scope := fnS (topS 35), globals := 3, closure := [], defaults := Value.none, kwdefaults := Value.none, pyModule := Value.str (Str.ofString "law_ph0075_01") 379, code := Value.ref 199 } })]
noncomputable def kview : Program := { PySem.Challenge.pw_ph0075_01 with main := { PySem.Challenge.pw_ph0075_01.main with body := (((PySem.Challenge.pw_ph0075_01.main.body.eraseIdx 27).eraseIdx 4).eraseIdx 1) } }
noncomputable def klv : List (Str × WData) := [(Str.ofString "_filemode_table", WData.tuple [WData.tuple [WData.tuple [WData.int 40960, WData.str { cps := #[108] }], WData.tuple [WData.int 49152, WData.str { cps := #[115] }], WData.tuple [WData.int 32768, WData.str { cps := #[45] }], WData.tuple [WData.int 24576, WData.str { cps := #[98] }], WData.tuple [WData.int 16384, WData.str { cps := #[100] }], WData.tuple [WData.int 8192, WData.str { cps := #[99] }], WData.tuple [WData.int 4096, WData.str { cps := #[112] }]], WData.tuple [WData.tuple [WData.int 256, WData.str { cps := #[114] }]], WData.tuple [WData.tuple [WData.int 128, WData.str { cps := #[119] }]], WData.tuple [WData.tuple [WData.int 2112, WData.str { cps := #[115] }], WData.tuple [WData.int 2048, WData.str { cps := #[83] }], WData.tuple [WData.int 64, WData.str { cps := #[120] }]], WData.tuple [WData.tuple [WData.int 32, WData.str { cps := #[114] }]], WData.tuple [WData.tuple [WData.int 16, WData.str { cps := #[119] }]], WData.tuple [WData.tuple [WData.int 1032, WData.str { cps := #[115] }], WData.tuple [WData.int 1024, WData.str { cps := #[83] }], WData.tuple [WData.int 8, WData.str { cps := #[120] }]], WData.tuple [WData.tuple [WData.int 4, WData.str { cps := #[114] }]], WData.tuple [WData.tuple [WData.int 2, WData.str { cps := #[119] }]], WData.tuple [WData.tuple [WData.int 513, WData.str { cps := #[116] }], WData.tuple [WData.int 512, WData.str { cps := #[84] }], WData.tuple [WData.int 1, WData.str { cps := #[120] }]]])]
noncomputable abbrev kH : Hook := kmHook kheap [2, 3, 15, 17, 18, 20, 21, 22, 25, 30, 31, 32, 34, 35, 37, 38, 39, 41, 42, 44, 45, 46, 47, 49, 50, 52, 53, 54, 55, 57, 58, 60, 61, 62, 64, 65, 67, 68, 69, 71, 72, 74, 75, 76, 77, 79, 80, 82, 83, 84, 86, 87, 89, 90, 91, 92, 94, 95, 97, 98, 99, 100, 101, 102, 103, 106, 108, 109, 111, 112, 113, 114, 115, 116, 117, 118, 119, 120, 121, 122, 123, 124, 125, 126, 127, 128, 129, 130, 131, 132, 133, 134, 135, 136, 137, 138, 139, 140, 141, 142, 143, 144, 145, 146, 148, 149, 151, 152, 153, 156, 157, 158, 160, 161, 163, 164, 165, 167, 168, 170, 171, 172, 175, 176, 177, 179, 180, 182, 183, 184, 186, 187, 189, 190, 191, 194, 195, 196, 199, 200] (fun _ => by kernel_rfl) [63, 70]
theorem kleft : LeftO PySem.Challenge.rw_ph0075_01.row.prog kview ["_Accumulator", "_filemode_table"] (fun s => xlAt kview klv s && recOk (RowW.records PySem.Challenge.rw_ph0075_01.row.toRowW) s) (Hook.obs kH) (Hook.val kH) 2516 := by
  intro w
  kernel_rfl
end Mine
end
section
open PySem PySem.W PyProof.Rows
set_option autoImplicit false
namespace Mine
inductive D where
  | none
  | bool (b : Bool)
  | int (i : Int)
  | str (x : Str)
  | tup (ds : List D)
  | lst (ds : List D)
  | acc (n : Nat)
  | box (n : Nat)
  | adr (a : Addr)
structure Gh where
  rho : List Addr
  bet : List (Option Addr)
  mu : Addr → Prop
noncomputable abbrev Acc := Int × List (Str × Str)
noncomputable def part (p : Str × Str) : D := .tup [.str p.1, .str p.2]
noncomputable abbrev tupO (vs : List Value) (n : Nat) : Obj := { cls := .type "tuple", data := .seq vs.toArray n }
noncomputable abbrev lstO (vs : List Value) (n : Nat) : Obj := { cls := .type "list", data := .seq vs.toArray n }
mutual
inductive Den (g : Gh) (h : Heap) : Value → D → Prop
  | none : Den g h .none .none
  | bool (b : Bool) : Den g h (.bool b) (.bool b)
  | int (i : Int) (t : Tok) : Den g h (.int i t) (.int i)
  | str (x : Str) (t : Tok) : Den g h (.str x t) (.str x)
  | tup {a : Addr} {vs : List Value} {n : Nat} {ds : List D} : h.get? a = some (tupO vs n) → ¬ g.mu a → DenAll g h vs ds → Den g h (.ref a) (.tup ds)
  | lst {a : Addr} {vs : List Value} {n : Nat} {ds : List D} : h.get? a = some (lstO vs n) → ¬ g.mu a → DenAll g h vs ds → Den g h (.ref a) (.lst ds)
  | acc {i : Nat} {a : Addr} : g.rho[i]? = some a → Den g h (.ref a) (.acc i)
  | box {i : Nat} {a : Addr} : g.bet[i]? = some (some a) → Den g h (.ref a) (.box i)
  | adr (a : Addr) : Den g h (.ref a) (.adr a)
inductive DenAll (g : Gh) (h : Heap) : List Value → List D → Prop
  | nil : DenAll g h [] []
  | cons {v : Value} {vs : List Value} {d : D} {ds : List D} : Den g h v d → DenAll g h vs ds → DenAll g h (v :: vs) (d :: ds)
end
structure Go (g g' : Gh) (h h' : Heap) : Prop where
  keep : ∀ b o, ¬ g.mu b → o.cls ≠ .none → h.get? b = some o → h'.get? b = some o
  mu : ∀ b o, h.get? b = some o → g'.mu b → g.mu b
  rho : ∀ (i : Nat) (a : Addr), g.rho[i]? = some a → g'.rho[i]? = some a
  bet : ∀ (i : Nat) (a : Addr), g.bet[i]? = some (some a) → g'.bet[i]? = some (some a)
theorem Den.go {g g' : Gh} {h h' : Heap} (G : Go g g' h h') {v : Value} {d : D} (x : Den g h v d) : Den g' h' v d :=
  Den.rec (motive_1 := fun v d _ => Den g' h' v d) (motive_2 := fun vs ds _ => DenAll g' h' vs ds) .none .bool .int .str (fun e m _ r => .tup (G.keep _ _ m (by simp) e) (fun q => m (G.mu _ _ e q)) r)
    (fun e m _ r => .lst (G.keep _ _ m (by simp) e) (fun q => m (G.mu _ _ e q)) r) (fun e => .acc (G.rho _ _ e)) (fun e => .box (G.bet _ _ e)) .adr .nil (fun _ _ a r => .cons a r) x
theorem DenAll.go {g g' : Gh} {h h' : Heap} (G : Go g g' h h') {vs : List Value} {ds : List D} (x : DenAll g h vs ds) : DenAll g' h' vs ds :=
  DenAll.rec (motive_1 := fun _ _ _ => True) (motive_2 := fun vs ds _ => DenAll g' h' vs ds) trivial (fun _ => trivial) (fun _ _ => trivial) (fun _ _ => trivial) (fun _ _ _ _ => trivial) (fun _ _ _ _ => trivial) (fun _ => trivial) (fun _ => trivial) (fun _ => trivial) .nil (fun a _ _ r => .cons (a.go G) r) x
theorem Go.refl (g : Gh) (h : Heap) : Go g g h h := ⟨fun _ _ _ _ e => e, fun _ _ _ e => e, fun _ _ e => e, fun _ _ e => e⟩
section
variable {g : Gh} {h : Heap} {v : Value} {d : D} {vs ws : List Value} {ds es : List D}
theorem DenAll.length (r : DenAll g h vs ds) : vs.length = ds.length := by
  induction vs generalizing ds with
  | nil => cases r; rfl
  | cons v vs ih =>
    cases r with
    | cons _ r => simp [ih r]
theorem DenAll.append (r : DenAll g h vs ds) (q : DenAll g h ws es) : DenAll g h (vs ++ ws) (ds ++ es) := by
  induction vs generalizing ds with
  | nil => cases r; exact q
  | cons v vs ih =>
    cases r with
    | cons a r => exact .cons a (ih r)
theorem DenAll.get (r : DenAll g h vs ds) {k : Nat} (e : ds[k]? = some d) : ∃ v, vs[k]? = some v ∧ Den g h v d := by
  induction vs generalizing ds k with
  | nil => cases r; simp at e
  | cons v vs ih =>
    cases r with
    | cons a r =>
      cases k with
      | zero => simp at e; subst e; exact ⟨v, rfl, a⟩
      | succ k => simp at e; simpa using ih r e
theorem DenAll.get' (r : DenAll g h vs ds) {k : Nat} (e : vs[k]? = some v) : ∃ d, ds[k]? = some d ∧ Den g h v d := by
  induction vs generalizing ds k with
  | nil => simp at e
  | cons u vs ih =>
    cases r with
    | cons a r =>
      cases k with
      | zero => simp at e; subst e; exact ⟨_, rfl, a⟩
      | succ k => simp at e; simpa using ih r e
theorem DenAll.drop (r : DenAll g h vs ds) (k : Nat) : DenAll g h (vs.drop k) (ds.drop k) := by
  induction k generalizing vs ds with
  | zero => simpa using r
  | succ k ih =>
    cases r with
    | nil => simpa using DenAll.nil
    | cons _ r => simpa using ih r
theorem DenAll.take (r : DenAll g h vs ds) (k : Nat) : DenAll g h (vs.take k) (ds.take k) := by
  induction k generalizing vs ds with
  | zero => simpa using DenAll.nil
  | succ k ih =>
    cases r with
    | nil => simpa using DenAll.nil
    | cons a r => simpa using DenAll.cons a (ih r)
theorem DenAll.reverse (r : DenAll g h vs ds) : DenAll g h vs.reverse ds.reverse := by
  induction vs generalizing ds with
  | nil => cases r; exact .nil
  | cons v vs ih =>
    cases r with
    | cons a r => simpa using (ih r).append (.cons a .nil)
end
section
variable {g : Gh} {h : Heap} {v : Value} {vs : List Value} {d : D} {ds : List D}
theorem Den.intI {i : Int} (x : Den g h v (.int i)) : ∃ t, v = .int i t := by cases x; exact ⟨_, rfl⟩
theorem Den.strI {z : Str} (x : Den g h v (.str z)) : ∃ t, v = .str z t := by cases x; exact ⟨_, rfl⟩
theorem Den.boolI {b : Bool} (x : Den g h v (.bool b)) : v = .bool b := by cases x; rfl
theorem Den.noneI (x : Den g h v .none) : v = .none := by cases x; rfl
theorem Den.lstI (x : Den g h v (.lst ds)) : ∃ a ws n, v = .ref a ∧ h.get? a = some (lstO ws n) ∧ ¬ g.mu a ∧ DenAll g h ws ds := by cases x; exact ⟨_, _, _, rfl, ‹_›, ‹_›, ‹_›⟩
theorem Den.tupI (x : Den g h v (.tup ds)) : ∃ a ws n, v = .ref a ∧ h.get? a = some (tupO ws n) ∧ ¬ g.mu a ∧ DenAll g h ws ds := by cases x; exact ⟨_, _, _, rfl, ‹_›, ‹_›, ‹_›⟩
theorem Den.accI {i : Nat} (x : Den g h v (.acc i)) : ∃ a, v = .ref a ∧ g.rho[i]? = some a := by cases x; exact ⟨_, rfl, ‹_›⟩
theorem Den.boxI {i : Nat} (x : Den g h v (.box i)) : ∃ a, v = .ref a ∧ g.bet[i]? = some (some a) := by cases x; exact ⟨_, rfl, ‹_›⟩
theorem DenAll.nilI (x : DenAll g h vs []) : vs = [] := by cases x; rfl
theorem DenAll.consI (x : DenAll g h vs (d :: ds)) : ∃ w ws, vs = w :: ws ∧ Den g h w d ∧ DenAll g h ws ds := by cases x; exact ⟨_, _, rfl, ‹_›, ‹_›⟩
theorem DenAll.oneI (x : DenAll g h vs [d]) : ∃ w, vs = [w] ∧ Den g h w d := by obtain ⟨w, ws, rfl, a, r⟩ := x.consI; cases r.nilI; exact ⟨w, rfl, a⟩
theorem DenAll.twoI {e : D} (x : DenAll g h vs [d, e]) : ∃ w u, vs = [w, u] ∧ Den g h w d ∧ Den g h u e := by obtain ⟨w, ws, rfl, a, r⟩ := x.consI; obtain ⟨u, rfl, b⟩ := r.oneI; exact ⟨w, u, rfl, a, b⟩
end
structure Cx where
  prog : Program
  w : World
  h0 : Heap
  os0 : OsState
  C : Addr
  tabs : List Addr
  tp : Gh → Heap → Prop
  mg : Str → Option Value
  mb : Str → Option Value
  gns : h0.Ns mainGlobals mg
  bns : h0.Ns builtinsNs mb
  nol : h0.NoLimit
  last : ∃ o, h0.get? (h0.objs.size - 1) = some o
  gt : mainGlobals ∉ tabs ∧ builtinsNs ∉ tabs ∧ cStatics ∉ tabs
  tabn : ∀ P ∈ tabs, ∀ o, h0.get? P = some o → o.cls = .none
  tpk : ∀ g g' h h', tp g h → (∀ b o, ¬ g.mu b → h.get? b = some o → h'.get? b = some o) → (∀ b o, h.get? b = some o → g'.mu b → g.mu b) → tp g' h'
noncomputable def AccAt (c : Cx) (g : Gh) (h : Heap) (a : Addr) (A : Acc) : Prop :=
  ∃ dx vs n k hs t u, h.get? a = some ⟨.ref c.C, some dx, .seq (List.toArray vs) n, #[]⟩ ∧ h.get? dx = some (dictOf [⟨hs, .str "_initial_size" t, .int A.1 u⟩] k) ∧ ¬ g.mu dx ∧ DenAll g h vs (A.2.map part)
structure Wd (c : Cx) (al : List Acc) (g : Gh) (s : Shared) : Prop where
  base : ∀ b o, b ∉ c.tabs → c.h0.get? b = some o → s.heap.get? b = some o
  old : OldK c.h0 s.heap
  tabc : ∀ P ∈ c.tabs, (∃ o, c.h0.get? P = some o) ∧ ∀ o, s.heap.get? P = some o → o.cls = .none
  tp : c.tp g s.heap
  mub : ∀ b, g.mu b → c.h0.objs.size ≤ b ∧ ∃ o, s.heap.get? b = some o
  os : s.os = c.os0
  gens : AllBare s.gens
  len : g.rho.length = al.length
  rmu : ∀ a ∈ g.rho, g.mu a
  rnd : g.rho.Nodup
  accs : ∀ (i : Nat) (a : Addr) (A : Acc), g.rho[i]? = some a → al[i]? = some A → AccAt c g s.heap a A
structure MS where
  v : List (Option D)
  a : List Acc
  b : List (List D)
noncomputable abbrev Mx (α : Type) := MS → Option (α × MS)
noncomputable def bd {α β : Type} (m : Mx α) (f : α → Mx β) : Mx β := fun σ => match m σ with
  | none => none
  | some p => f p.1 p.2
noncomputable def rt {α : Type} (a : α) : Mx α := fun σ => some (a, σ)
noncomputable def lf {α : Type} (o : Option α) : Mx α := fun σ => o.map fun a => (a, σ)
theorem bd_some {α β : Type} {m : Mx α} {f : α → Mx β} {σ : MS} {r : β × MS} (h : bd m f σ = some r) : ∃ a σ', m σ = some (a, σ') ∧ f a σ' = some r := by
  unfold bd at h
  cases e : m σ with
  | none => rw [e] at h; cases h
  | some p => rw [e] at h; exact ⟨p.1, p.2, rfl, h⟩
theorem lf_some {α : Type} {o : Option α} {σ : MS} {r : α × MS} (h : lf o σ = some r) : o = some r.1 ∧ σ = r.2 := by
  unfold lf at h
  cases o with
  | none => cases h
  | some a => cases h; exact ⟨rfl, rfl⟩
structure Frm where
  env : Env
  names : List Str
  ws : List Addr
  k : Nat
noncomputable def boxesOf (g : Gh) : List Addr := g.bet.filterMap id
noncomputable def Frm.W (F : Frm) (g : Gh) : List Addr := F.ws ++ g.rho ++ boxesOf g
structure Ext (c : Cx) (W : List Addr) (g g' : Gh) (h h' : Heap) : Prop where
  keep : ∀ b o, b ∉ W → b ∉ c.tabs → h.get? b = some o → h'.get? b = some o
  there : ∀ b o, h.get? b = some o → ∃ o', h'.get? b = some o'
  mu1 : ∀ b o, h.get? b = some o → g'.mu b → g.mu b
  mu2 : ∀ b o, h.get? b = some o → g.mu b → g'.mu b
  rho : ∃ l, g'.rho = g.rho ++ l ∧ ∀ a ∈ l, h.get? a = none
  bet : ∃ l, g'.bet = g.bet ++ l ∧ ∀ a, some a ∈ l → h.get? a = none
theorem Ext.refl (c : Cx) (W : List Addr) (g : Gh) (h : Heap) : Ext c W g g h h :=
  ⟨fun _ _ _ _ e => e, fun _ o e => ⟨o, e⟩, fun _ _ _ e => e, fun _ _ _ e => e, ⟨[], by simp, by simp⟩, ⟨[], by simp, by simp⟩⟩
theorem mem_boxes {g : Gh} {a : Addr} : a ∈ boxesOf g ↔ some a ∈ g.bet := by
  unfold boxesOf
  simp
theorem none_back {h h' : Heap} (ht : ∀ b o, h.get? b = some o → ∃ o', h'.get? b = some o') {a : Addr} (e : h'.get? a = none) : h.get? a = none := by
  cases q : h.get? a with
  | none => rfl
  | some o => obtain ⟨o', z⟩ := ht a o q; rw [e] at z; cases z
theorem Ext.trans {c : Cx} {F : Frm} {g g' g'' : Gh} {h h' h'' : Heap} (x : Ext c (F.W g) g g' h h') (y : Ext c (F.W g') g' g'' h' h'') : Ext c (F.W g) g g'' h h'' := by
  obtain ⟨lr, hr, hrl⟩ := x.rho
  obtain ⟨lb, hb, hbl⟩ := x.bet
  obtain ⟨lr', hr', hrl'⟩ := y.rho
  obtain ⟨lb', hb', hbl'⟩ := y.bet
  refine ⟨fun b o hW ht e => ?_, fun b o e => let ⟨o', e'⟩ := x.there b o e; y.there b o' e', fun b o e q => let ⟨o', e'⟩ := x.there b o e; x.mu1 b o e (y.mu1 b o' e' q),
    fun b o e q => let ⟨o', e'⟩ := x.there b o e; y.mu2 b o' e' (x.mu2 b o e q), ⟨lr ++ lr', by rw [hr', hr, List.append_assoc], ?_⟩, ⟨lb ++ lb', by rw [hb', hb, List.append_assoc], ?_⟩⟩
  · refine y.keep b o (fun hm => ?_) ht (x.keep b o hW ht e)
    unfold Frm.W at hm hW
    rw [List.mem_append, List.mem_append] at hm
    rw [List.mem_append, List.mem_append, not_or, not_or] at hW
    rcases hm with (hm | hm) | hm
    · exact hW.1.1 hm
    · rw [hr, List.mem_append] at hm
      rcases hm with hm | hm
      · exact hW.1.2 hm
      · have := hrl b hm; rw [e] at this; cases this
    · rw [mem_boxes, hb, List.mem_append] at hm
      rcases hm with hm | hm
      · exact hW.2 (mem_boxes.mpr hm)
      · have := hbl b hm; rw [e] at this; cases this
  · intro a ha
    rcases List.mem_append.mp ha with ha | ha
    · exact hrl a ha
    · exact none_back x.there (hrl' a ha)
  · intro a ha
    rcases List.mem_append.mp ha with ha | ha
    · exact hbl a ha
    · exact none_back x.there (hbl' a ha)
theorem Ext.go {c : Cx} {W : List Addr} {g g' : Gh} {h h' : Heap} (x : Ext c W g g' h h') (hW : ∀ a ∈ W, g.mu a) (ht : ∀ P ∈ c.tabs, ∀ o, h.get? P = some o → o.cls = .none) : Go g g' h h' := by
  obtain ⟨lr, hr, _⟩ := x.rho
  obtain ⟨lb, hb, _⟩ := x.bet
  refine ⟨fun b o hm hc e => x.keep b o (fun q => hm (hW b q)) (fun q => hc (ht b q o e)) e, x.mu1, fun i a e => ?_, fun i a e => ?_⟩
  · rw [hr]
    have := (List.getElem?_eq_some_iff.mp e).1
    rw [List.getElem?_append_left this]; exact e
  · rw [hb]
    have := (List.getElem?_eq_some_iff.mp e).1
    rw [List.getElem?_append_left this]; exact e
noncomputable def VarAt (env : Env) (h : Heap) (x : Str) (v : Value) : Prop :=
  (env.kindOf x = some .local ∧ ∃ m, h.Ns env.locals m ∧ m x = some v) ∨
  ((env.kindOf x = some .cell ∨ env.kindOf x = some .free) ∧ ∃ a, env.cells.lookup x = some a ∧ h.IsCell a (some v))
structure FrmOk (F : Frm) : Prop where
  kind : F.env.scope.kind = .function
  glob : F.env.globals = mainGlobals
  bi : F.env.builtins = builtinsNs
  wl : F.env.locals ∈ F.ws
  apart : ∀ x y a, F.env.cells.lookup x = some a → F.env.cells.lookup y = some a → x = y
  nod : F.names.Nodup
structure Rel (c : Cx) (F : Frm) (σ : MS) (g : Gh) (s : Shared) : Prop where
  wd : Wd c σ.a g s
  fo : FrmOk F
  loc : ∃ m, s.heap.Ns F.env.locals m
  vars : ∀ (i : Nat) x d, F.names[i]? = some x → σ.v[i]? = some (some d) → ∃ v, VarAt F.env s.heap x v ∧ Den g s.heap v d
  cellx : ∀ x a, F.env.cells.lookup x = some a → (g.mu a ∨ (a < c.h0.objs.size ∧ a ∉ c.tabs)) ∧ ∃ v, s.heap.IsCell a v
  wmu : ∀ a ∈ F.ws, g.mu a
  blen : g.bet.length = σ.b.length
  bmu : ∀ a, some a ∈ g.bet → g.mu a
  bnd : ∀ (i j : Nat) a, g.bet[i]? = some (some a) → g.bet[j]? = some (some a) → i = j
  box : ∀ (i : Nat) a l, g.bet[i]? = some (some a) → σ.b[i]? = some l → ∃ vs n, s.heap.get? a = some (lstO vs n) ∧ DenAll g s.heap vs l
structure Room (A : Around) (k : Nat) : Prop where
  depth : A.depth + k < recursionLimit
  units : A.units + 40 * k + 200 < cLine
  hh : A.handled = none
  fr : ∃ l, A.frames = some l
  gd : A.guards = some []
noncomputable def IE (c : Cx) (F : Frm) (e : Expr) (m : Mx D) : Prop :=
  ∀ (A : Around) (s : Shared) (σ : MS) (g : Gh) (d : D) (σ' : MS), Room A F.k → Rel c F σ g s → m σ = some (d, σ') →
    ∀ (Q : Value → Shared → Prop) (E : Value → Shared → Prop), (∀ v s' g', Rel c F σ' g' s' → Den g' s'.heap v d → Ext c (F.W g) g g' s.heap s'.heap → Q v s') →
      wpAny (model c.prog c.w) A (eval e F.env) Q E s
noncomputable def IT (c : Cx) (F : Frm) (e : Expr) (m : Mx Bool) : Prop :=
  ∀ (A : Around) (s : Shared) (σ : MS) (g : Gh) (b : Bool) (σ' : MS), Room A F.k → Rel c F σ g s → m σ = some (b, σ') →
    ∀ (Q : Bool → Shared → Prop) (E : Value → Shared → Prop), (∀ s' g', Rel c F σ' g' s' → Ext c (F.W g) g g' s.heap s'.heap → Q b s') →
      wpAny (model c.prog c.w) A (isTrue e F.env (eval e F.env)) Q E s
inductive Fl where
  | next | brk
  | ret (d : D)
noncomputable def FlIs (g : Gh) (h : Heap) : Flow → Fl → Prop
  | .next, .next => True
  | .brk, .brk => True
  | .ret v, .ret d => Den g h v d
  | _, _ => False
noncomputable def IS (c : Cx) (F : Frm) (st : List Stmt) (m : Mx Fl) : Prop :=
  ∀ (A : Around) (s : Shared) (σ : MS) (g : Gh) (f : Fl) (σ' : MS), Room A F.k → Rel c F σ g s → m σ = some (f, σ') →
    ∀ (Q : Flow → Shared → Prop) (E : Value → Shared → Prop), (∀ fl s' g', Rel c F σ' g' s' → FlIs g' s'.heap fl f → Ext c (F.W g) g g' s.heap s'.heap → Q fl s') →
      wpAny (model c.prog c.w) A (execs st F.env) Q E s
noncomputable def I1 (c : Cx) (F : Frm) (st : Stmt) (m : Mx Fl) : Prop :=
  ∀ (A : Around) (s : Shared) (σ : MS) (g : Gh) (f : Fl) (σ' : MS), Room A F.k → Rel c F σ g s → m σ = some (f, σ') →
    ∀ (Q : Flow → Shared → Prop) (E : Value → Shared → Prop), (∀ fl s' g', Rel c F σ' g' s' → FlIs g' s'.heap fl f → Ext c (F.W g) g g' s.heap s'.heap → Q fl s') →
      wpAny (model c.prog c.w) A (exec st F.env) Q E s
end Mine
end
section
open PySem PySem.W PyProof.Rows
set_option autoImplicit false
namespace Mine
theorem oldk_low {h₀ h h' : Heap} (K : OldK h₀ h) (hk : ∀ b o, b < h₀.objs.size → h.get? b = some o → h'.get? b = some o) : OldK h₀ h' := by
  refine ⟨fun b o e => ?_, fun b o e => let ⟨o', ho'⟩ := K.there b o e; ⟨o', hk _ _ (Heap.lt_size e) ho'⟩⟩
  have hb := Heap.lt_size e
  rcases K.old b o e with x | ⟨t, hc, vs, more, hv, x⟩ | ⟨rfl, hc, ⟨o', es, n, ho', r⟩, z⟩
  · exact .inl (hk _ _ hb x)
  · exact .inr (.inl ⟨t, hc, vs, more, hv, hk _ _ hb x⟩)
  · exact .inr (.inr ⟨rfl, hc, ⟨o', es, n, hk _ _ hb ho', r⟩, fun key => by rw [OldK.staticOf_congr ((hk _ _ hb ho').trans ho'.symm) key]; exact z key⟩)
theorem AccAt.go {c : Cx} {g g' : Gh} {h h' : Heap} {a : Addr} {A : Acc} (x : AccAt c g h a A) (G : Go g g' h h') (ha : ∀ o, h.get? a = some o → h'.get? a = some o) : AccAt c g' h' a A := by
  obtain ⟨dx, vs, n, k, hs, t, u, h1, h2, h3, h4⟩ := x
  exact ⟨dx, vs, n, k, hs, t, u, ha _ h1, G.keep _ _ h3 (by simp) h2, fun q => h3 (G.mu _ _ h2 q), h4.go G⟩
theorem Wd.step {c : Cx} {al : List Acc} {g : Gh} {s : Shared} (R : Wd c al g s) {mu' : Addr → Prop} {h' : Heap} {tk : Nat} (X : Addr → Prop)
    (hX : ∀ b, X b → g.mu b ∧ b ∉ g.rho) (hk : ∀ b o, ¬ X b → s.heap.get? b = some o → h'.get? b = some o)
    (hm : ∀ b o, s.heap.get? b = some o → mu' b → g.mu b) (hm' : ∀ b ∈ g.rho, mu' b) (hb : ∀ b, mu' b → c.h0.objs.size ≤ b ∧ ∃ o, h'.get? b = some o) : Wd c al { g with mu := mu' } { s with heap := h', toks := tk } ∧ Go g { g with mu := mu' } s.heap h' := by
  have G : Go g { g with mu := mu' } s.heap h' := ⟨fun b o q _ e => hk b o (fun x => q (hX b x).1) e, hm, fun _ _ e => e, fun _ _ e => e⟩
  have low : ∀ b o, b < c.h0.objs.size → s.heap.get? b = some o → h'.get? b = some o := fun b o l e => hk b o (fun x => absurd l (Nat.not_lt.mpr (R.mub b (hX b x).1).1)) e
  refine ⟨⟨fun b o ht e => low b o (Heap.lt_size e) (R.base b o ht e), oldk_low R.old low, fun P hP => ⟨(R.tabc P hP).1, fun o e => ?_⟩, ?_, hb, R.os, R.gens, R.len, fun a ha => ?_, R.rnd, fun i a A e1 e2 => ?_⟩, G⟩
  · obtain ⟨⟨o₀, z⟩, q⟩ := R.tabc P hP
    obtain ⟨o₁, e₁⟩ := R.old.there P o₀ z
    have e₂ := low P o₁ (Heap.lt_size z) e₁
    have : o = o₁ := Option.some.inj (e.symm.trans e₂)
    subst this
    exact q _ e₁
  · exact c.tpk _ _ _ _ R.tp (fun b o q e => hk b o (fun x => q (hX b x).1) e) hm
  · exact hm' a ha
  · exact (R.accs i a A e1 e2).go G fun o e => hk a o (fun x => (hX a x).2 (List.mem_of_getElem? e1)) e
theorem Wd.tcls {c : Cx} {al : List Acc} {g : Gh} {s : Shared} (R : Wd c al g s) : ∀ P ∈ c.tabs, ∀ o, s.heap.get? P = some o → o.cls = .none := fun P hP => (R.tabc P hP).2
theorem Wd.tlow {c : Cx} {al : List Acc} {g : Gh} {s : Shared} (R : Wd c al g s) {P : Addr} (hP : P ∈ c.tabs) : P < c.h0.objs.size := let ⟨⟨_, z⟩, _⟩ := R.tabc P hP; Heap.lt_size z
section
variable {c : Cx} {F : Frm} {σ : MS} {g : Gh} {s : Shared}
theorem Rel.W (R : Rel c F σ g s) : ∀ a ∈ F.W g, g.mu a := by
  intro a ha
  unfold Frm.W at ha
  rw [List.mem_append, List.mem_append] at ha
  rcases ha with (ha | ha) | ha
  · exact R.wmu a ha
  · exact R.wd.rmu a ha
  · exact R.bmu a (mem_boxes.mp ha)
theorem Rel.go (R : Rel c F σ g s) {g' : Gh} {h' : Heap} (x : Ext c (F.W g) g g' s.heap h') : Go g g' s.heap h' := x.go R.W R.wd.tcls
theorem mem_W_box {F : Frm} {g : Gh} {a : Addr} (h : some a ∈ g.bet) : a ∈ F.W g := List.mem_append.mpr (.inr (mem_boxes.mpr h))
theorem mem_W_rho {F : Frm} {g : Gh} {a : Addr} (h : a ∈ g.rho) : a ∈ F.W g := List.mem_append.mpr (.inl (List.mem_append.mpr (.inr h)))
theorem mem_W_ws {F : Frm} {g : Gh} {a : Addr} (h : a ∈ F.ws) : a ∈ F.W g := List.mem_append.mpr (.inl (List.mem_append.mpr (.inl h)))
theorem Rel.boxat (R : Rel c F σ g s) {a : Addr} (ha : some a ∈ g.bet) : ∃ o, s.heap.get? a = some o := by
  obtain ⟨i, hi, e⟩ := List.mem_iff_getElem.mp ha
  obtain ⟨vs, n, h1, _⟩ := R.box i a (σ.b[i]'(by rw [← R.blen]; exact hi)) (by rw [← e]; exact List.getElem?_eq_getElem hi) (List.getElem?_eq_getElem _)
  exact ⟨_, h1⟩
theorem VarAt.at {env : Env} {h h' : Heap} {x : Str} {v : Value} (V : VarAt env h x v) (hl : ∀ o, h.get? env.locals = some o → h'.get? env.locals = some o) (hc : ∀ y a, env.cells.lookup y = some a → ∀ o, h.get? a = some o → h'.get? a = some o) : VarAt env h' x v := by
  rcases V with ⟨k, m, hn, e⟩ | ⟨k, a, e, o, ho, r⟩
  · exact .inl ⟨k, m, hn.at' hl, e⟩
  · exact .inr ⟨k, a, e, o, hc _ _ e o ho, r⟩
theorem Rel.step (R : Rel c F σ g s) {mu' : Addr → Prop} {h' : Heap} {tk : Nat} (X : Addr → Prop)
    (hX : ∀ b, X b → g.mu b ∧ b ∉ F.W g ∧ (∀ y, F.env.cells.lookup y ≠ some b)) (hk : ∀ b o, ¬ X b → s.heap.get? b = some o → h'.get? b = some o)
    (hm : ∀ b o, s.heap.get? b = some o → mu' b → g.mu b) (hm' : ∀ b, g.mu b → (b ∈ F.W g ∨ ∃ y, F.env.cells.lookup y = some b) → mu' b) (hb : ∀ b, mu' b → c.h0.objs.size ≤ b ∧ ∃ o, h'.get? b = some o) : Rel c F σ { g with mu := mu' } { s with heap := h', toks := tk } := by
  have hXr : ∀ b, X b → g.mu b ∧ b ∉ g.rho := fun b x => ⟨(hX b x).1, fun q => (hX b x).2.1 (by unfold Frm.W; simp [q])⟩
  obtain ⟨W', G⟩ := R.wd.step (tk := tk) X hXr hk hm (fun b q => hm' b (R.wd.rmu b q) (.inl (mem_W_rho q))) hb
  have hl : ∀ o, s.heap.get? F.env.locals = some o → h'.get? F.env.locals = some o := fun o e => hk _ o (fun x => (hX _ x).2.1 (by unfold Frm.W; simp [R.fo.wl])) e
  have hc : ∀ y a, F.env.cells.lookup y = some a → ∀ o, s.heap.get? a = some o → h'.get? a = some o := fun y a e o he => hk a o (fun x => (hX a x).2.2 y e) he
  refine ⟨W', R.fo, ?_, fun i x d e1 e2 => ?_, fun x a e => ?_, fun a ha => ?_, R.blen, fun a ha => ?_, R.bnd, fun i a l e1 e2 => ?_⟩
  · obtain ⟨m, hn⟩ := R.loc
    exact ⟨m, hn.at' hl⟩
  · obtain ⟨v, V, dn⟩ := R.vars i x d e1 e2
    exact ⟨v, V.at hl hc, dn.go G⟩
  · obtain ⟨m, v, o, ho, r⟩ := R.cellx x a e
    exact ⟨m.imp (fun m => hm' a m (.inr ⟨x, e⟩)) id, v, o, hc x a e o ho, r⟩
  · exact hm' a (R.wmu a ha) (.inl (mem_W_ws ha))
  · exact hm' a (R.bmu a ha) (.inl (mem_W_box ha))
  · obtain ⟨vs, n, h1, h2⟩ := R.box i a l e1 e2
    exact ⟨vs, n, hk a _ (fun x => (hX a x).2.1 (mem_W_box (List.mem_of_getElem? e1))) h1, h2.go G⟩
theorem Rel.keeps (R : Rel c F σ g s) {h' : Heap} {tk : Nat} (hk : ∀ b o, s.heap.get? b = some o → h'.get? b = some o) : Rel c F σ g { s with heap := h', toks := tk } :=
  R.step (mu' := g.mu) (tk := tk) (fun _ => False) (fun _ q => q.elim) (fun b o _ e => hk b o e) (fun _ _ _ q => q) (fun _ q _ => q) fun b q => ⟨(R.wd.mub b q).1, let ⟨o, e⟩ := (R.wd.mub b q).2; ⟨o, hk b o e⟩⟩
theorem Rel.tok (R : Rel c F σ g s) {tk : Nat} : Rel c F σ g { s with toks := tk } := R.keeps (tk := tk) (fun _ _ e => e)
theorem Rel.push (R : Rel c F σ g s) (o : Obj) {tk : Nat} : Rel c F σ g { s with heap := s.heap.push o, toks := tk } := R.keeps (tk := tk) (fun _ _ e => Heap.get?_push_of_some o e)
theorem Ext.keeps {W : List Addr} {h h' : Heap} (hk : ∀ b o, h.get? b = some o → h'.get? b = some o) : Ext c W g g h h' :=
  ⟨fun b o _ _ e => hk b o e, fun b o e => ⟨o, hk b o e⟩, fun _ _ _ e => e, fun _ _ _ e => e, ⟨[], by simp, by simp⟩, ⟨[], by simp, by simp⟩⟩
theorem Ext.push {W : List Addr} {h : Heap} (o : Obj) : Ext c W g g h (h.push o) := Ext.keeps (fun _ _ e => Heap.get?_push_of_some o e)
theorem Go.keeps {h h' : Heap} (hk : ∀ b o, h.get? b = some o → h'.get? b = some o) : Go g g h h' := ⟨fun b o _ _ e => hk b o e, fun _ _ _ e => e, fun _ _ e => e, fun _ _ e => e⟩
theorem Go.push {h : Heap} (o : Obj) : Go g g h (h.push o) := Go.keeps fun _ _ e => Heap.get?_push_of_some o e
theorem Rel.new (R : Rel c F σ g s) : ¬ g.mu s.heap.objs.size := fun q => let ⟨_, e⟩ := (R.wd.mub _ q).2; Nat.lt_irrefl _ (Heap.lt_size e)
theorem Rel.ctab (R : Rel c F σ g s) {y : Str} {a : Addr} (e : F.env.cells.lookup y = some a) : a ∉ c.tabs := by
  rcases (R.cellx y a e).1 with m | m
  · exact fun t => Nat.lt_irrefl _ (Nat.lt_of_lt_of_le (R.wd.tlow t) (R.wd.mub a m).1)
  · exact m.2
end
end Mine
end
section
open PySem PySem.W PyProof.Rows
set_option autoImplicit false
namespace Mine
variable {c : Cx} {F : Frm}
noncomputable def rd (i : Nat) : Mx D := fun σ => match σ.v[i]? with
  | some (some d) => some (d, σ)
  | _ => none
theorem rd_some {i : Nat} {σ σ' : MS} {d : D} (h : rd i σ = some (d, σ')) : σ.v[i]? = some (some d) ∧ σ = σ' := by
  unfold rd at h
  split at h
  · rename_i d' e; cases h; exact ⟨e, rfl⟩
  · cases h
theorem IE_name (i : Nat) {x : Str} {pos : Pos} (hx : F.names[i]? = some x) (hd : (x == ("__debug__" : Str)) = false := by decide +kernel) (hc : (x == ("__classdict__" : Str)) = false := by decide +kernel) :
    IE c F (.Name x pos) (rd i) := by
  intro A s σ g d σ' room R hm Q E hQ
  obtain ⟨e, rfl⟩ := rd_some hm
  obtain ⟨v, V, dn⟩ := R.vars i x d hx e
  have q := hQ v s g R dn (Ext.refl ..)
  refine wpAny_Name ?_ hd
  rcases V with ⟨k, m, hn, ev⟩ | ⟨k | k, a, ea, hcell⟩
  · exact wpAny_loadName_local R.fo.kind k hn ev q
  · exact wpAny_loadName_cell R.fo.kind k ea hcell q
  · exact wpAny_loadName_free R.fo.kind k ea hcell q hc
theorem IE_int {n : Int} {k : Nat} {pos : Pos} : IE c F (.Constant (.int n) k pos) (rt (.int n)) := by
  intro A s σ g d σ' room R hm Q E hQ
  cases hm
  exact wpAny_Constant_int (hQ _ _ g R.tok (.int _ _) (Ext.refl ..))
theorem IE_str {x : Str} {k : Nat} {pos : Pos} : IE c F (.Constant (.str x) k pos) (rt (.str x)) := by
  intro A s σ g d σ' room R hm Q E hQ
  cases hm
  exact wpAny_Constant_str (hQ _ _ g R.tok (.str _ _) (Ext.refl ..))
theorem IE_bool {b : Bool} {k : Nat} {pos : Pos} : IE c F (.Constant (.bool b) k pos) (rt (.bool b)) := by
  intro A s σ g d σ' room R hm Q E hQ
  cases hm
  exact wpAny_Constant_bool (hQ _ _ g R (.bool _) (Ext.refl ..))
noncomputable def Kt (c : Cx) (F : Frm) (σ : MS) (g : Gh) (s : Shared) (d : D) (Q : Value → Shared → Prop) : Prop :=
  ∀ v s' g', Rel c F σ g' s' → Den g' s'.heap v d → Ext c (F.W g) g g' s.heap s'.heap → Q v s'
section
variable {σ : MS} {g : Gh} {s : Shared} {d : D} {Q : Value → Shared → Prop}
theorem Kt.keep (P : Kt c F σ g s d Q) (R : Rel c F σ g s) {v : Value} {h' : Heap} {tk : Nat} (hk : ∀ b o, s.heap.get? b = some o → h'.get? b = some o) (dn : Den g h' v d) : Q v { s with heap := h', toks := tk } :=
  P v _ g (R.keeps hk) dn (Ext.keeps hk)
theorem Kt.flat (P : Kt c F σ g s d Q) (R : Rel c F σ g s) {v : Value} (dn : Den g s.heap v d) {tk : Nat} : Q v { s with toks := tk } := P.keep (tk := tk) R (fun _ _ e => e) dn
theorem Kt.flat0 (P : Kt c F σ g s d Q) (R : Rel c F σ g s) {v : Value} (dn : Den g s.heap v d) : Q v s := P v s g R dn (Ext.refl ..)
theorem Kt.push (P : Kt c F σ g s d Q) (R : Rel c F σ g s) {v : Value} {o : Obj} {tk : Nat} (dn : Den g (s.heap.push o) v d) : Q v { s with heap := s.heap.push o, toks := tk } := P.keep (tk := tk) R (fun _ _ e => Heap.get?_push_of_some o e) dn
end
noncomputable def OpB (c : Cx) (F : Frm) (op : Operator) (p : D → D → Option D) : Prop :=
  ∀ (A : Around) (s : Shared) (σ : MS) (g : Gh) (va vb : Value) (a b d : D), Room A F.k → Rel c F σ g s → Den g s.heap va a → Den g s.heap vb b → p a b = some d →
    ∀ (Q : Value → Shared → Prop) (E : Value → Shared → Prop), Kt c F σ g s d Q → wpAny (model c.prog c.w) A (binaryOp op va vb) Q E s
noncomputable def OpC (c : Cx) (F : Frm) (op : CmpOp) (p : D → D → Option Bool) : Prop :=
  ∀ (A : Around) (s : Shared) (σ : MS) (g : Gh) (va vb : Value) (a b : D) (r : Bool), Room A F.k → Rel c F σ g s → Den g s.heap va a → Den g s.heap vb b → p a b = some r →
    ∀ (Q : Value → Shared → Prop) (E : Value → Shared → Prop), Kt c F σ g s (.bool r) Q → wpAny (model c.prog c.w) A (compareOp op va vb) Q E s
theorem IE_bin {l r : Expr} {op : Operator} {pos : Pos} {f k : Mx D} {p : D → D → Option D} (hl : IE c F l f) (hr : IE c F r k) (ho : OpB c F op p) :
    IE c F (.BinOp l op r pos) (bd f fun a => bd k fun b => lf (p a b)) := by
  intro A s σ g d σ' room R hm Q E hQ
  obtain ⟨a, σ1, h1, hm⟩ := bd_some hm
  obtain ⟨b, σ2, h2, hm⟩ := bd_some hm
  obtain ⟨h3, rfl⟩ := lf_some hm
  refine wpAny_BinOp (hl A s σ g a σ1 room R h1 _ _ fun va s1 g1 R1 d1 x1 => hr A s1 σ1 g1 b σ2 room R1 h2 _ _ fun vb s2 g2 R2 d2 x2 => ?_)
  exact ho A s2 σ2 g2 va vb a b d room R2 (d1.go (R1.go x2)) d2 h3 Q E (fun v s3 g3 R3 d3 x3 => hQ v s3 g3 R3 d3 ((x1.trans x2).trans x3))
theorem IE_cmp {l r : Expr} {op : CmpOp} {pos : Pos} {f k : Mx D} {p : D → D → Option Bool} (hl : IE c F l f) (hr : IE c F r k) (ho : OpC c F op p) (hm : behindInMarks op r = false := by with_unfolding_all rfl) :
    IE c F (.Compare l [op] [r] pos) (bd f fun a => bd k fun b => lf ((p a b).map .bool)) := by
  have hmk := hm
  intro A s σ g d σ' room R hm Q E hQ
  obtain ⟨a, σ1, h1, hm⟩ := bd_some hm
  obtain ⟨b, σ2, h2, hm⟩ := bd_some hm
  obtain ⟨h3, rfl⟩ := lf_some hm
  obtain ⟨r', h5, h4⟩ := Option.map_eq_some_iff.mp h3
  dsimp only at h4
  subst h4
  refine wpAny_Compare1 (hl A s σ g a σ1 room R h1 _ _ fun va s1 g1 R1 d1 x1 => hr A s1 σ1 g1 b σ2 room R1 h2 _ _ fun vb s2 g2 R2 d2 x2 => ?_) hmk
  exact ho A s2 σ2 g2 va vb a b r' room R2 (d1.go (R1.go x2)) d2 h5 Q E (fun v s3 g3 R3 d3 x3 => hQ v s3 g3 R3 d3 ((x1.trans x2).trans x3))
theorem IT_cmp {l r : Expr} {op : CmpOp} {pos : Pos} {f k : Mx D} {p : D → D → Option Bool} (hl : IE c F l f) (hr : IE c F r k) (ho : OpC c F op p) (hm : behindInMarks op r = false := by with_unfolding_all rfl) :
    IT c F (.Compare l [op] [r] pos) (bd f fun a => bd k fun b => lf (p a b)) := by
  have hmk := hm
  intro A s σ g d σ' room R hm Q E hQ
  obtain ⟨a, σ1, h1, hm⟩ := bd_some hm
  obtain ⟨b, σ2, h2, hm⟩ := bd_some hm
  obtain ⟨h3, rfl⟩ := lf_some hm
  refine wpAny_isTrue_Compare1 (hl A s σ g a σ1 room R h1 _ _ fun va s1 g1 R1 d1 x1 => hr A s1 σ1 g1 b σ2 room R1 h2 _ _ fun vb s2 g2 R2 d2 x2 => ?_) hmk
  refine ho A s2 σ2 g2 va vb a b d room R2 (d1.go (R1.go x2)) d2 h3 _ E (fun v s3 g3 R3 d3 x3 => ?_)
  cases d3
  exact wpAny_truthy_bool (hQ s3 g3 R3 ((x1.trans x2).trans x3))
theorem IE_if {t b o : Expr} {pos : Pos} {mt : Mx Bool} {mb mo : Mx D} (ht : IT c F t mt) (hb : IE c F b mb) (ho : IE c F o mo) :
    IE c F (.IfExp t b o pos) (bd mt fun x => if x then mb else mo) := by
  intro A s σ g d σ' room R hm Q E hQ
  obtain ⟨x, σ1, h1, hm⟩ := bd_some hm
  refine wpAny_IfExp (ht A s σ g x σ1 room R h1 _ _ fun s1 g1 R1 x1 => ?_)
  cases x with
  | true => exact hb A s1 σ1 g1 d σ' room R1 hm Q E fun v s2 g2 R2 d2 x2 => hQ v s2 g2 R2 d2 (x1.trans x2)
  | false => exact ho A s1 σ1 g1 d σ' room R1 hm Q E fun v s2 g2 R2 d2 x2 => hQ v s2 g2 R2 d2 (x1.trans x2)
theorem IT_and2 {x y : Expr} {pos : Pos} {mx my : Mx Bool} (hx : IT c F x mx) (hy : IT c F y my) : IT c F (.BoolOp .And [x, y] pos) (bd mx fun b => if b then my else rt false) := by
  intro A s σ g d σ' room R hm Q E hQ
  obtain ⟨b, σ1, h1, hm⟩ := bd_some hm
  refine wpAny_isTrue_BoolOp (wpAny_allTrue_And_cons (hx A s σ g b σ1 room R h1 _ _ fun s1 g1 R1 x1 => ?_))
  cases b with
  | false => cases hm; exact hQ s1 g1 R1 x1
  | true =>
    refine wpAny_allTrue_And_cons (hy A s1 σ1 g1 d σ' room R1 hm _ _ fun s2 g2 R2 x2 => ?_)
    have q := hQ s2 g2 R2 (x1.trans x2)
    cases d with
    | true => exact wpAny_allTrue_And_nil q
    | false => exact q
theorem IT_or2 {x y : Expr} {pos : Pos} {mx my : Mx Bool} (hx : IT c F x mx) (hy : IT c F y my) : IT c F (.BoolOp .Or [x, y] pos) (bd mx fun b => if b then rt true else my) := by
  intro A s σ g d σ' room R hm Q E hQ
  obtain ⟨b, σ1, h1, hm⟩ := bd_some hm
  refine wpAny_isTrue_BoolOp (wpAny_allTrue_Or_cons (hx A s σ g b σ1 room R h1 _ _ fun s1 g1 R1 x1 => ?_))
  cases b with
  | true => cases hm; exact hQ s1 g1 R1 x1
  | false =>
    refine wpAny_allTrue_Or_cons (hy A s1 σ1 g1 d σ' room R1 hm _ _ fun s2 g2 R2 x2 => ?_)
    have q := hQ s2 g2 R2 (x1.trans x2)
    cases d with
    | true => exact q
    | false => exact wpAny_allTrue_Or_nil q
noncomputable def IL (c : Cx) (F : Frm) (es : List Expr) (m : Mx (List D)) : Prop :=
  ∀ (A : Around) (s : Shared) (σ : MS) (g : Gh) (ds : List D) (σ' : MS), Room A F.k → Rel c F σ g s → m σ = some (ds, σ') →
    ∀ (pos : Pos) (Q : List Value → Shared → Prop) (E : Value → Shared → Prop), (∀ vs s' g', Rel c F σ' g' s' → DenAll g' s'.heap vs ds → Ext c (F.W g) g g' s.heap s'.heap → Q vs s') →
      wpAny (model c.prog c.w) A (spliced (backTo pos (starEach es F.env))) Q E s
theorem IL_nil : IL c F [] (rt []) := by
  intro A s σ g ds σ' room R hm pos Q E hQ
  cases hm
  exact wpAny_items_nil (hQ [] s g R .nil (Ext.refl ..))
theorem IL_cons {e : Expr} {es : List Expr} {f : Mx D} {k : Mx (List D)} (h1 : IE c F e f) (h2 : IL c F es k) (he : starEach (e :: es) F.env = (false, eval e F.env) :: starEach es F.env := by rfl) :
    IL c F (e :: es) (bd f fun d => bd k fun ds => rt (d :: ds)) := by
  intro A s σ g ds σ' room R hm pos Q E hQ
  obtain ⟨a, σ1, q1, hm⟩ := bd_some hm
  obtain ⟨l, σ2, q2, hm⟩ := bd_some hm
  cases hm
  refine wpAny_items_cons (h1 A s σ g a σ1 room R q1 _ _ fun v s1 g1 R1 d1 x1 => h2 A s1 σ1 g1 l _ room R1 q2 pos _ _ fun vs s2 g2 R2 d2 x2 => ?_) he
  exact hQ _ s2 g2 R2 (.cons (d1.go (R1.go x2)) d2) (x1.trans x2)
noncomputable def mkT (l : List D) : Option D := if l.length ≤ 1000000 then some (.tup l) else none
noncomputable def mkL (l : List D) : Option D := if l.length ≤ 1000000 then some (.lst l) else none
theorem IE_tuple {es : List Expr} {k : Nat} {pos : Pos} {m : Mx (List D)} (h : IL c F es m) : IE c F (.Tuple es k pos) (bd m fun l => lf (mkT l)) := by
  intro A s σ g d σ' room R hm Q E hQ
  obtain ⟨l, σ1, q1, hm⟩ := bd_some hm
  obtain ⟨h3, rfl⟩ := lf_some hm
  unfold mkT at h3
  split at h3
  · rename_i hlen
    cases h3
    refine wpAny_Tuple (h A s σ g l σ1 room R q1 pos _ _ fun vs s1 g1 R1 d1 x1 => ⟨?_, ?_⟩)
    · rw [d1.length, sizeLine_eq]; omega
    · exact hQ _ _ g1 (R1.push _) (.tup (n := 0) (Heap.get?_push_size _ rfl) R1.new (d1.go (Go.push _))) (x1.trans (Ext.push _))
  · cases h3
theorem IE_list {es : List Expr} {pos : Pos} {m : Mx (List D)} (h : IL c F es m) : IE c F (.List es pos) (bd m fun l => lf (mkL l)) := by
  intro A s σ g d σ' room R hm Q E hQ
  obtain ⟨l, σ1, q1, hm⟩ := bd_some hm
  obtain ⟨h3, rfl⟩ := lf_some hm
  unfold mkL at h3
  split at h3
  · rename_i hlen
    cases h3
    refine wpAny_List (h A s σ g l σ1 room R q1 pos _ _ fun vs s1 g1 R1 d1 x1 => ⟨?_, ?_⟩)
    · rw [d1.length, sizeLine_eq]; omega
    · exact hQ _ _ g1 (R1.push _) (.lst (n := 0) (Heap.get?_push_size _ rfl) R1.new (d1.go (Go.push _))) (x1.trans (Ext.push _))
  · cases h3
end Mine
end
section
open PySem PySem.W PyProof.Rows PySem.SeqAt PySem.Spec
set_option autoImplicit false
namespace Mine
variable {c : Cx} {F : Frm}
noncomputable def addD : D → D → Option D
  | .int a, .int b => some (.int (a + b))
  | .str x, .str y => if x.length + y.length ≤ 1000000 then some (.str (x ++ y)) else none
  | .lst xs, .lst ys => if xs.length + ys.length ≤ 1000000 then some (.lst (xs ++ ys)) else none
  | _, _ => none
theorem op_add : OpB c F .Add addD := by
  intro A s σ g va vb a b d room R da db hp Q E P
  unfold addD at hp
  split at hp
  · cases hp
    obtain ⟨_, rfl⟩ := da.intI; obtain ⟨_, rfl⟩ := db.intI
    exact PyProof.Rows.add_int (P.flat R (.int _ _))
  · split at hp
    · rename_i hz
      cases hp
      obtain ⟨_, rfl⟩ := da.strI; obtain ⟨_, rfl⟩ := db.strI
      exact PyProof.Rows.add_str (fun t' tk => P.flat R (.str _ _)) (by rw [sizeLine_eq]; omega)
    · cases hp
  · split at hp
    · rename_i hz
      cases hp
      obtain ⟨_, _, _, rfl, h1, m1, r1⟩ := da.lstI; obtain ⟨_, _, _, rfl, h2, m2, r2⟩ := db.lstI
      refine PySem.P.add_list h1 h2 ?_ ?_
      · refine P.push R (.lst (n := 0) (by simpa using Heap.get?_push_size _ rfl) R.new ?_)
        exact (r1.append r2).go (Go.push _)
      · simp only [List.size_toArray]; rw [r1.length, r2.length, sizeLine_eq]; omega
    · cases hp
  · cases hp
noncomputable def int2 (k : Int → Int → Option D) : D → D → Option D
  | .int a, .int b => k a b
  | _, _ => none
theorem int2_some {k : Int → Int → Option D} {a b d : D} (h : int2 k a b = some d) : ∃ x y, a = .int x ∧ b = .int y ∧ k x y = some d := by
  unfold int2 at h
  split at h
  · exact ⟨_, _, rfl, rfl, h⟩
  · cases h
theorem OpB_int {op : Operator} {k : Int → Int → Option D} (H : ∀ (A : Around) (s : Shared) (σ : MS) (g : Gh) (x y : Int) (t u : Tok) (d : D) (Q : Value → Shared → Prop) (E : Value → Shared → Prop), Rel c F σ g s → k x y = some d → Kt c F σ g s d Q → wpAny (model c.prog c.w) A (binaryOp op (.int x t) (.int y u)) Q E s) : OpB c F op (int2 k) := by
  intro A s σ g va vb a b d room R da db hp Q E P
  obtain ⟨x, y, rfl, rfl, hk⟩ := int2_some hp
  obtain ⟨t, rfl⟩ := da.intI; obtain ⟨u, rfl⟩ := db.intI
  exact H A s σ g x y t u d Q E R hk P
noncomputable def subD : D → D → Option D := int2 fun a b => some (.int (a - b))
theorem op_sub : OpB c F .Sub subD := OpB_int fun A s σ g x y t u d Q E R h P => by cases h; exact PyProof.Rows.sub_int (P.flat R (.int _ _))
noncomputable def modD : D → D → Option D := int2 fun a b => if b = 0 then none else some (.int (a.fmod b))
theorem op_mod : OpB c F .Mod modD := OpB_int fun A s σ g x y t u d Q E R h P => by
  split at h
  · cases h
  · rename_i hb; cases h; exact PyProof.Rows.mod_int hb (P.flat R (.int _ _))
noncomputable def divD : D → D → Option D := int2 fun a b => if b = 0 ∨ ¬ b.natAbs < 1073741824 then none else some (.int (a.fdiv b))
theorem op_div : OpB c F .FloorDiv divD := OpB_int fun A s σ g x y t u d Q E R h P => by
  split at h
  · cases h
  · rename_i hb; cases h; exact PyProof.Rows.floordiv_int (fun q => hb (.inl q)) (P.flat R (.int _ _)) (.inl (PyProof.noPylong_small (Classical.not_not.mp fun q => hb (.inr q))))
noncomputable def powD : D → D → Option D := int2 fun a n => if 0 ≤ n ∧ n ≤ 1000000 ∧ a.natAbs < 2 ^ 64 then some (.int (a ^ n.toNat)) else none
theorem op_pow : OpB c F .Pow powD := OpB_int fun A s σ g x y t u d Q E R h P => by
  split at h
  · rename_i hb; cases h; exact PyProof.Rows.pow_int_small hb.1 hb.2.1 hb.2.2 (P.flat R (.int _ _))
  · cases h
noncomputable def andD : D → D → Option D := int2 fun a b => some (.int (Builtin.bitAnd a b))
theorem op_and : OpB c F .BitAnd andD := OpB_int fun A s σ g x y t u d Q E R h P => by cases h; exact PyProof.Rows.and_int (P.flat R (.int _ _))
noncomputable def allBut (h : Heap) (L : Addr) : List (Addr × Obj) := (List.range h.objs.size).filterMap fun a => if a = L then none else (h.get? a).map fun o => (a, o)
theorem mem_allBut {h : Heap} {L a : Addr} {o : Obj} : (a, o) ∈ allBut h L ↔ a ≠ L ∧ h.get? a = some o := by
  unfold allBut
  rw [List.mem_filterMap]
  constructor
  · rintro ⟨b, hb, e⟩
    split at e
    · cases e
    · rename_i hne
      obtain ⟨o', h1, h2⟩ := Option.map_eq_some_iff.mp e
      cases h2
      exact ⟨hne, h1⟩
  · rintro ⟨hne, e⟩
    exact ⟨a, List.mem_range.mpr (Heap.lt_size e), by rw [if_neg hne, e]; rfl⟩
theorem empty_get (a : Addr) : ({} : Heap).get? a = none := by
  unfold Heap.get?
  simp
theorem Ns.unique {h : Heap} {a : Addr} {m m' : Str → Option Value} (x : h.Ns a m) (y : h.Ns a m') : m = m' := by
  obtain ⟨o, es, ep, h1, h2, _, h3⟩ := x
  obtain ⟨o', es', ep', k1, k2, _, k3⟩ := y
  rw [h1] at k1; cases k1
  rw [h2] at k2; cases k2
  funext n
  rw [← h3, ← k3]
theorem Rel.notAcc {σ : MS} {g : Gh} {s : Shared} (R : Rel c F σ g s) {a : Addr} {o : Obj} (e : s.heap.get? a = some o) (hd : ∀ vs n, o.data ≠ .seq vs n) : a ∉ g.rho := by
  intro ha
  obtain ⟨i, hi, e'⟩ := List.mem_iff_getElem.mp ha
  obtain ⟨dx, vs, n, k, hs, t, u, h1, _⟩ := R.wd.accs i a (σ.a[i]'(by rw [← R.wd.len]; exact hi)) (by rw [← e']; exact List.getElem?_eq_getElem hi) (List.getElem?_eq_getElem _)
  rw [e] at h1
  cases h1
  exact hd _ _ rfl
theorem Rel.notBox {σ : MS} {g : Gh} {s : Shared} (R : Rel c F σ g s) {a : Addr} {o : Obj} (e : s.heap.get? a = some o) (hd : ∀ vs n, o.data ≠ .seq vs n) : some a ∉ g.bet := by
  intro ha
  obtain ⟨i, hi, e'⟩ := List.mem_iff_getElem.mp ha
  obtain ⟨vs, n, h1, _⟩ := R.box i a (σ.b[i]'(by rw [← R.blen]; exact hi)) (by rw [← e']; exact List.getElem?_eq_getElem hi) (List.getElem?_eq_getElem _)
  rw [e] at h1
  cases h1
  exact hd _ _ rfl
theorem Rel.setL {σ : MS} {g : Gh} {s : Shared} (R : Rel c F σ g s) {h' : Heap} {tk : Nat} {m' : Str → Option Value} (hn : h'.Ns F.env.locals m')
    (hk : ∀ b o, b ≠ F.env.locals → s.heap.get? b = some o → h'.get? b = some o) (v' : List (Option D))
    (hv : ∀ (i : Nat) x d, F.names[i]? = some x → v'[i]? = some (some d) → (F.env.kindOf x = some .local ∧ ∃ v, m' x = some v ∧ Den g h' v d) ∨ (F.env.kindOf x ≠ some .local ∧ σ.v[i]? = some (some d))) :
    Rel c F { σ with v := v' } g { s with heap := h', toks := tk } ∧ Ext c (F.W g) g g s.heap h' := by
  obtain ⟨m, o, es, ep, ho, hd, _⟩ := R.loc
  have th : ∀ b o', s.heap.get? b = some o' → ∃ o'', h'.get? b = some o'' := fun b o' e => by
    by_cases hb : b = F.env.locals
    · subst hb; obtain ⟨o₁, _, _, h1, _⟩ := hn; exact ⟨o₁, h1⟩
    · exact ⟨o', hk b o' hb e⟩
  have nod : ∀ vs n, o.data ≠ .seq vs n := fun vs n q => by rw [hd] at q; cases q
  have hr := R.notAcc ho nod
  have hbx := R.notBox ho nod
  obtain ⟨W', G⟩ := R.wd.step (mu' := g.mu) (tk := tk) (h' := h') (fun b => b = F.env.locals) (fun b q => by subst q; exact ⟨R.wmu _ R.fo.wl, hr⟩) (fun b o' q e => hk b o' q e) (fun _ _ _ q => q) R.wd.rmu
    fun b q => ⟨(R.wd.mub b q).1, let ⟨o', e⟩ := (R.wd.mub b q).2; th b o' e⟩
  have hcl : ∀ y a, F.env.cells.lookup y = some a → ∀ o', s.heap.get? a = some o' → h'.get? a = some o' := fun y a e o' he => hk a o' (fun q => by
    subst q
    obtain ⟨_, v, oc, hoc, hdc⟩ := R.cellx y _ e
    rw [ho] at hoc; cases hoc
    rw [hd] at hdc; cases hdc) he
  refine ⟨⟨W', R.fo, ⟨m', hn⟩, fun i x d e1 e2 => ?_, fun x a e => ?_, R.wmu, R.blen, R.bmu, R.bnd, fun i a l e1 e2 => ?_⟩, fun b o' hW _ e => hk b o' (fun q => hW (q ▸ mem_W_ws R.fo.wl)) e, th, fun _ _ _ q => q, fun _ _ _ q => q, ⟨[], by simp, by simp⟩, ⟨[], by simp, by simp⟩⟩
  · rcases hv i x d e1 e2 with ⟨k, v, h1, h2⟩ | ⟨k, h1⟩
    · exact ⟨v, .inl ⟨k, m', hn, h1⟩, h2⟩
    · obtain ⟨v, V, dn⟩ := R.vars i x d e1 h1
      refine ⟨v, ?_, dn.go G⟩
      rcases V with ⟨k', _⟩ | ⟨k', a, ea, oc, hoc, r⟩
      · exact absurd k' k
      · exact .inr ⟨k', a, ea, oc, hcl _ _ ea oc hoc, r⟩
  · obtain ⟨q, v, oc, hoc, r⟩ := R.cellx x a e
    exact ⟨q, v, oc, hcl _ _ e oc hoc, r⟩
  · obtain ⟨vs, n, h1, h2⟩ := R.box i a l e1 e2
    exact ⟨vs, n, hk a _ (fun q => hbx (q ▸ List.mem_of_getElem? e1)) h1, h2.go G⟩
theorem Rel.via {σ : MS} {g : Gh} {s : Shared} (R : Rel c F σ g s) : ∃ m, Fr {} F.env.locals s.heap m ∧ News {} F.env.locals s.heap (allBut s.heap F.env.locals) ∧
    ∀ (h' : Heap) (tk : Nat) (l : List (Addr × Obj)), Fr {} F.env.locals h' m → News {} F.env.locals h' l → (∀ p ∈ allBut s.heap F.env.locals, p ∈ l) →
      Rel c F σ g { s with heap := h', toks := tk } ∧ Ext c (F.W g) g g s.heap h' := by
  obtain ⟨m, hm⟩ := R.loc
  refine ⟨m, ⟨hm, (fun b o e => by rw [empty_get] at e; cases e), Nat.zero_le _⟩, fun p hp => ?_, fun h' tk l F' N' hl => ?_⟩
  · obtain ⟨h1, h2⟩ := mem_allBut.mp hp
    exact ⟨h2, h1, empty_get _⟩
  · have hk : ∀ b o, b ≠ F.env.locals → s.heap.get? b = some o → h'.get? b = some o := fun b o hb e => (N' _ (hl _ (mem_allBut.mpr ⟨hb, e⟩))).1
    have hkm : ∀ b o, ¬ g.mu b → s.heap.get? b = some o → h'.get? b = some o := fun b o q e => hk b o (fun z => q (z ▸ R.wmu _ R.fo.wl)) e
    have G : Go g g s.heap h' := ⟨fun b o q _ e => hkm b o q e, fun _ _ _ q => q, fun _ _ q => q, fun _ _ q => q⟩
    refine R.setL F'.ns hk σ.v fun i x d e1 e2 => ?_
    obtain ⟨v, V, dn⟩ := R.vars i x d e1 e2
    rcases V with ⟨k, m₁, hn, ev⟩ | ⟨k, _⟩
    · rw [Ns.unique hn hm] at ev
      exact .inl ⟨k, v, ev, dn.go G⟩
    · exact .inr ⟨(by rcases k with k | k <;> rw [k] <;> simp), e2⟩
end Mine
end
section
open PySem PySem.W PyProof.Rows PySem.SeqAt PySem.Spec
set_option autoImplicit false
namespace Mine
variable {c : Cx} {F : Frm}
theorem foldl_rep (vs : List Value) : ∀ (k : Nat) (acc : Array Value), List.foldl (fun x1 x2 => x1 ++ x2) acc (List.replicate k vs.toArray) = acc ++ (List.replicate k vs).flatten.toArray
  | 0, acc => by simp
  | k + 1, acc => by
    rw [List.replicate_succ, List.foldl_cons, foldl_rep vs k, List.replicate_succ, List.flatten_cons]
    simp [Array.append_assoc]
theorem DenAll.rep {g : Gh} {h : Heap} {vs : List Value} {ds : List D} (r : DenAll g h vs ds) : ∀ k : Nat, DenAll g h (List.replicate k vs).flatten (List.replicate k ds).flatten
  | 0 => .nil
  | k + 1 => by
    rw [List.replicate_succ, List.replicate_succ, List.flatten_cons, List.flatten_cons]
    exact r.append (r.rep k)
theorem mul_items (vs : List Value) (k : Nat) : List.foldl (fun x1 x2 => x1 ++ x2) #[] (List.replicate (if vs.toArray.isEmpty = true then 0 else k) vs.toArray) = (List.replicate k vs).flatten.toArray := by
  cases vs with
  | nil => simp
  | cons v vs =>
    have : (v :: vs).toArray.isEmpty = false := by simp
    rw [this, foldl_rep]
    simp
noncomputable def mulD : D → D → Option D
  | .int a, .int b => if b.natAbs < 2 ^ 64 then some (.int (a * b)) else none
  | .lst xs, .int n => if xs.length * n.toNat ≤ 100000 ∧ -(2 ^ 63 : Int) ≤ n ∧ n < 2 ^ 63 then some (.lst (List.replicate n.toNat xs).flatten) else none
  | _, _ => none
theorem op_mul : OpB c F .Mult mulD := by
  intro A s σ g va vb a b d room R da db hp Q E P
  unfold mulD at hp
  split at hp
  · split at hp
    · rename_i hb
      cases hp
      obtain ⟨_, rfl⟩ := da.intI; obtain ⟨_, rfl⟩ := db.intI
      exact PyProof.Rows.mul_int (P.flat R (.int _ _)) (.of_right (intBits_le hb))
    · cases hp
  · split at hp
    · rename_i hz
      cases hp
      obtain ⟨_, rfl⟩ := db.intI
      obtain ⟨_, _, _, rfl, h1, m1, r1⟩ := da.lstI
      obtain ⟨m, Fm, N, go⟩ := R.via
      refine PyProof.Rows.mul_list Fm N h1 hz.2.1 hz.2.2 ?_ fun h' F' N' => ?_
      · simp only [List.size_toArray]; rw [r1.length]; omega
      · have hnew := (N' _ (.head _)).1
        obtain ⟨R', x⟩ := go h' s.toks _ F' N' (fun p hp => .tail _ hp)
        refine P _ _ g R' ?_ x
        rw [mul_items] at hnew
        exact .lst (n := 0) hnew R.new ((r1.rep _).go (R.go x))
    · cases hp
  · cases hp
mutual
noncomputable def pyO : D → Option PyData
  | .none => some .none
  | .bool b => some (.bool b)
  | .int i => some (.int i)
  | .str x => if PyData.strOk x then some (.str x) else none
  | .tup ds => (pyOs ds).map .tuple
  | .lst ds => (pyOs ds).map .list
  | .acc _ => none
  | .box _ => none
  | .adr _ => none
noncomputable def pyOs : List D → Option (List PyData)
  | [] => some []
  | d :: ds => match pyO d, pyOs ds with
    | some p, some ps => some (p :: ps)
    | _, _ => none
end
theorem Den.reads {g : Gh} {h : Heap} {v : Value} {d : D} {p : PyData} (x : Den g h v d) (e : pyO d = some p) : (∃ as, Reads h v p as) ∧ p.canLay0 = true :=
  Den.rec (motive_1 := fun v d _ => ∀ p, pyO d = some p → (∃ as, Reads h v p as) ∧ p.canLay0 = true) (motive_2 := fun vs ds _ => ∀ ps, pyOs ds = some ps → (∃ as, ReadsAll h vs ps as) ∧ PyData.canLayAll0 ps = true)
    (fun _ e => by cases e; exact ⟨⟨_, .none⟩, rfl⟩) (fun b _ e => by cases e; exact ⟨⟨_, .bool b⟩, rfl⟩) (fun i t _ e => by cases e; exact ⟨⟨_, .int i t⟩, rfl⟩)
    (fun x t _ e => by
      rw [pyO] at e
      split at e
      · rename_i hx; cases e; exact ⟨⟨_, .str x t⟩, hx⟩
      · cases e)
    (fun h1 _ _ r _ e => by
      rw [pyO] at e
      obtain ⟨ps, e1, e2⟩ := Option.map_eq_some_iff.mp e
      subst e2
      obtain ⟨⟨as, q⟩, l⟩ := r _ e1
      exact ⟨⟨_, .tuple h1 rfl rfl (by simpa using q)⟩, l⟩)
    (fun h1 _ _ r _ e => by
      rw [pyO] at e
      obtain ⟨ps, e1, e2⟩ := Option.map_eq_some_iff.mp e
      subst e2
      obtain ⟨⟨as, q⟩, l⟩ := r _ e1
      exact ⟨⟨_, .list h1 rfl rfl (by simpa using q)⟩, l⟩)
    (fun _ _ e => by rw [pyO] at e; cases e) (fun _ _ e => by rw [pyO] at e; cases e) (fun _ _ e => by rw [pyO] at e; cases e)
    (fun _ e => by rw [pyOs] at e; cases e; exact ⟨⟨_, .nil⟩, rfl⟩)
    (fun _ _ a r _ e => by
      rw [pyOs] at e
      split at e
      · rename_i p ps e1 e2
        cases e
        obtain ⟨⟨as, q⟩, l⟩ := a _ e1
        obtain ⟨⟨bs, q'⟩, l'⟩ := r _ e2
        exact ⟨⟨_, .cons q q'⟩, by rw [PyData.canLayAll0, l, l']; rfl⟩
      · cases e) x _ e
noncomputable def eqD (a b : D) : Option Bool := match pyO a, pyO b with
  | some p, some q => if p.depth ≤ 60 ∧ q.depth ≤ 60 then some (PyData.eqv p q) else none
  | _, _ => none
theorem op_eq : OpC c F .Eq eqD := by
  intro A s σ g va vb a b r room R da db hp Q E P
  unfold eqD at hp
  split at hp
  · rename_i p q e1 e2
    split at hp
    · rename_i hz
      cases hp
      obtain ⟨⟨as, ra⟩, la⟩ := da.reads e1
      obtain ⟨⟨bs, rb⟩, lb⟩ := db.reads e2
      exact compareEq_reads ra rb la lb (by have := room.units; omega) (P.flat0 R (.bool _))
    · cases hp
  · cases hp
noncomputable def neD (a b : D) : Option Bool := (eqD a b).map not
theorem op_ne : OpC c F .NotEq neD := by
  intro A s σ g va vb a b r room R da db hp Q E P
  unfold neD at hp
  obtain ⟨r', hp, hr⟩ := Option.map_eq_some_iff.mp hp
  unfold eqD at hp
  split at hp
  · rename_i p q e1 e2
    split at hp
    · rename_i hz
      injection hp with hp
      subst hp hr
      obtain ⟨⟨as, ra⟩, la⟩ := da.reads e1
      obtain ⟨⟨bs, rb⟩, lb⟩ := db.reads e2
      refine ne_dataH ra rb ?_ ?_ (by have := room.units; omega) (P.flat0 R (.bool _))
      · unfold shaped; rw [la, Bool.true_and]; exact decide_eq_true (by omega)
      · unfold shaped; rw [lb, Bool.true_and]; exact decide_eq_true (by omega)
    · cases hp
  · cases hp
noncomputable def int2b (k : Int → Int → Bool) : D → D → Option Bool
  | .int a, .int b => some (k a b)
  | _, _ => none
theorem int2b_some {k : Int → Int → Bool} {a b : D} {r : Bool} (h : int2b k a b = some r) : ∃ x y, a = .int x ∧ b = .int y ∧ r = k x y := by
  unfold int2b at h
  split at h
  · cases h; exact ⟨_, _, rfl, rfl, rfl⟩
  · cases h
noncomputable def ltD : D → D → Option Bool := int2b fun a b => decide (a < b)
theorem op_lt : OpC c F .Lt ltD := by
  intro A s σ g va vb a b r room R da db hp Q E P
  obtain ⟨x, y, rfl, rfl, rfl⟩ := int2b_some hp
  obtain ⟨t, rfl⟩ := da.intI; obtain ⟨u, rfl⟩ := db.intI
  exact PyProof.Rows.lt_int (P.flat0 R (.bool _))
noncomputable def gtD : D → D → Option Bool := int2b fun a b => decide (b < a)
theorem op_gt : OpC c F .Gt gtD := by
  intro A s σ g va vb a b r room R da db hp Q E P
  obtain ⟨x, y, rfl, rfl, rfl⟩ := int2b_some hp
  obtain ⟨t, rfl⟩ := da.intI; obtain ⟨u, rfl⟩ := db.intI
  exact PyProof.Rows.gt_int (P.flat0 R (.bool _))
noncomputable def inD : D → D → Option Bool
  | .str y, .str x => some (Txt.contains x y)
  | a, .lst ds => match pyO a, pyOs ds with
    | some p, some ps => if p.depth ≤ 60 then some (ps.any fun y => PyData.eqv y p) else none
    | _, _ => none
  | _, _ => none
theorem op_in : OpC c F .In inD := by
  intro A s σ g va vb a b r room R da db hp Q E P
  unfold inD at hp
  split at hp
  · cases hp
    obtain ⟨_, rfl⟩ := da.strI; obtain ⟨_, rfl⟩ := db.strI
    exact PySem.SB.contains (P.flat0 R (.bool _))
  · split at hp
    · rename_i p ps e1 e2
      split at hp
      · rename_i hz
        cases hp
        obtain ⟨⟨as, ra⟩, la⟩ := da.reads e1
        obtain ⟨⟨bs, rb⟩, lb⟩ := db.reads (p := .list ps) (by rw [pyO, e2]; rfl)
        exact in_list_reads rb ra lb la (by have := room.units; omega) (P.flat0 R (.bool _))
      · cases hp
    · cases hp
  · cases hp
end Mine
end
section
open PySem PySem.W PyProof.Rows PySem.SeqAt PySem.Spec
set_option autoImplicit false
namespace Mine
variable {c : Cx} {F : Frm}
noncomputable def itemL (l : List D) (k : Int) : Option D := if -(2 ^ 63) ≤ k ∧ k < 2 ^ 63 then (seqIndex? k l.length).bind fun j => l[j]? else none
noncomputable def itemS (x : Str) (k : Int) : Option D := if -(2 ^ 63) ≤ k ∧ k < 2 ^ 63 then ((seqIndex? k x.length).bind fun j => x.cps[j]?).map fun ch => .str ⟨#[ch]⟩ else none
noncomputable def itemD (bs : List (List D)) : D → D → Option D
  | .lst l, .int k => itemL l k
  | .tup l, .int k => itemL l k
  | .str x, .int k => itemS x k
  | .box i, .int k => match bs[i]? with
    | some l => itemL l k
    | none => none
  | _, _ => none
theorem itemL_some {l : List D} {k : Int} {d : D} (h : itemL l k = some d) : -(2 ^ 63) ≤ k ∧ k < 2 ^ 63 ∧ ∃ j, seqIndex? k l.length = some j ∧ l[j]? = some d := by
  unfold itemL at h
  split at h
  · rename_i hz
    obtain ⟨j, h1, h2⟩ := Option.bind_eq_some_iff.mp h
    exact ⟨hz.1, hz.2, j, h1, h2⟩
  · cases h
theorem seqIndex_some {k : Int} {n j : Nat} (h : seqIndex? k n = some j) : (0 ≤ k ∧ j = k.toNat ∧ j < n) ∨ (k < 0 ∧ -(n : Int) ≤ k ∧ j = (k + n).toNat ∧ j < n) := by
  unfold seqIndex? at h
  by_cases hk : k < 0
  · right
    simp only [hk, if_true] at h
    split at h
    · rename_i hz
      rw [Bool.and_eq_true, decide_eq_true_eq, decide_eq_true_eq] at hz
      injection h with h
      omega
    · cases h
  · left
    simp only [hk, if_false] at h
    split at h
    · rename_i hz
      rw [Bool.and_eq_true, decide_eq_true_eq, decide_eq_true_eq] at hz
      injection h with h
      omega
    · cases h
theorem wp_listItem {A : Around} {s : Shared} {E : Value → Shared → Prop} {Q : Value → Shared → Prop} {a : Addr} {vs : List Value} {n : Nat} {k : Int} {t : Tok} {g : Gh} {ds : List D} {d : D}
    (h1 : s.heap.get? a = some (lstO vs n)) (r : DenAll g s.heap vs ds) (hi : itemL ds k = some d) (h : ∀ v, Den g s.heap v d → Q v s) : wpAny (model c.prog c.w) A (getItem (.ref a) (.int k t)) Q E s := by
  obtain ⟨b1, b2, j, e1, e2⟩ := itemL_some hi
  obtain ⟨v, ev, dn⟩ := r.get e2
  have hl : s.heap.IsList a vs.toArray := ⟨_, h1, rfl, n, rfl⟩
  rcases seqIndex_some e1 with ⟨k0, ej, _⟩ | ⟨k0, k1, ej, _⟩
  · exact wpAny_getItem_list hl k0 b2 (by rw [← ej]; simpa using ev) (h v dn)
  · refine wpAny_getItem_list_neg hl k0 (by rw [List.size_toArray, r.length]; exact k1) b1 ?_ (h v dn)
    rw [List.size_toArray, r.length, ← ej]; simpa using ev
theorem IE_item {x i : Expr} {pos : Pos} {f k : Mx D} (hx : IE c F x f) (hi : IE c F i k) (hs : ∀ o v, subscripted i false o v = operate [o, v] (getItem o v) := by intro _ _; with_unfolding_all rfl) :
    IE c F (.Subscript x i pos) (bd f fun a => bd k fun b => fun σ => (itemD σ.b a b).map fun d => (d, σ)) := by
  intro A s σ g d σ' room R hm Q E hQ
  obtain ⟨a, σ1, q1, hm⟩ := bd_some hm
  obtain ⟨b, σ2, q2, hm⟩ := bd_some hm
  obtain ⟨d', hd, hm⟩ := Option.map_eq_some_iff.mp hm
  cases hm
  refine Subscript_ (hx A s σ g a σ1 room R q1 _ _ fun va s1 g1 R1 d1 x1 => hi A s1 σ1 g1 b _ room R1 q2 _ _ fun vb s2 g2 R2 d2 x2 => ?_)
  have K : Kt c F _ g2 s2 d Q := fun v s3 g3 R3 d3 x3 => hQ v s3 g3 R3 d3 ((x1.trans x2).trans x3)
  have d1 := d1.go (R1.go x2)
  clear hQ q1 q2
  unfold itemD at hd
  split at hd
  · obtain ⟨_, rfl⟩ := d2.intI
    obtain ⟨_, _, _, rfl, h1, m1, r1⟩ := d1.lstI
    exact tail_any ⟨_, h1, rfl⟩ slot_list_getitem.lookup (wp_listItem h1 r1 hd fun v dn => K.flat0 R2 dn) (hs _ _)
  · obtain ⟨_, rfl⟩ := d2.intI
    obtain ⟨_, _, _, rfl, h1, m1, r1⟩ := d1.tupI
    obtain ⟨b1, b2, j, e1, e2⟩ := itemL_some hd
    obtain ⟨v, ev, dn⟩ := r1.get e2
    refine tail_any ⟨_, h1, rfl⟩ PySem.F.slot_tuple_getitem.lookup (PyProof.Rows.getItem_tuple ⟨_, h1, rfl, _, rfl⟩ b1 b2 (j := j) ?_ ?_ (K.flat0 R2 dn)) (hs _ _)
    · rw [List.size_toArray, r1.length]; exact e1
    · simpa using ev
  · obtain ⟨_, rfl⟩ := d2.intI
    obtain ⟨_, rfl⟩ := d1.strI
    unfold itemS at hd
    split at hd
    · rename_i hz
      obtain ⟨ch, e1, e2⟩ := Option.map_eq_some_iff.mp hd
      subst e2
      refine tail_any (typeIs_str _ _ _) PySem.F.slot_str_getitem.lookup (PyProof.Rows.getItem_str (c := ch) ?_ ?_ (K.flat R2 (.str _ _))) (hs _ _)
      · rw [Bool.or_eq_false_iff]; exact ⟨decide_eq_false (by omega), decide_eq_false (by omega)⟩
      · exact e1
    · cases hd
  · split at hd
    · rename_i l el
      obtain ⟨_, rfl⟩ := d2.intI
      obtain ⟨_, rfl, hb⟩ := d1.boxI
      obtain ⟨vs, n, h1, r1⟩ := R2.box _ _ _ hb el
      exact tail_any ⟨_, h1, rfl⟩ slot_list_getitem.lookup (wp_listItem h1 r1 hd fun v dn => K.flat0 R2 dn) (hs _ _)
    · cases hd
  · cases hd
noncomputable def asI : D → Option (Option Int)
  | .int i => some (some i)
  | .none => some none
  | _ => none
noncomputable def IP (c : Cx) (F : Frm) (e : Option Expr) (m : Mx (Option Int)) : Prop :=
  ∀ (A : Around) (s : Shared) (σ : MS) (g : Gh) (r : Option Int) (σ' : MS), Room A F.k → Rel c F σ g s → m σ = some (r, σ') →
    ∀ (Q : Value → Shared → Prop) (E : Value → Shared → Prop), (∀ v s' g', Rel c F σ' g' s' → IsPart v r → Ext c (F.W g) g g' s.heap s'.heap → Q v s') →
      wpAny (model c.prog c.w) A (evalPart e F.env) Q E s
theorem IP_none : IP c F none (rt none) := by
  intro A s σ g r σ' room R hm Q E hQ
  cases hm
  exact wpAny_evalPart_none (hQ _ s g R .none (Ext.refl ..))
theorem IP_some {e : Expr} {f : Mx D} (h : IE c F e f) : IP c F (some e) (bd f fun d => lf (asI d)) := by
  intro A s σ g r σ' room R hm Q E hQ
  obtain ⟨a, σ1, q1, hm⟩ := bd_some hm
  obtain ⟨h3, rfl⟩ := lf_some hm
  refine wpAny_evalPart_some (h A s σ g a σ1 room R q1 _ _ fun v s1 g1 R1 d1 x1 => ?_)
  unfold asI at h3
  split at h3
  · cases h3; cases d1; exact hQ _ s1 g1 R1 (.int _ _) x1
  · cases h3; cases d1; exact hQ _ s1 g1 R1 .none x1
  · cases h3
noncomputable def pickL {α : Type} (l : List α) (lo hi st : Option Int) : List α :=
  (sliceRange (sliceBounds lo hi st l.length).1 (sliceBounds lo hi st l.length).2.1 (sliceBounds lo hi st l.length).2.2).filterMap (l[·]?)
noncomputable def pickS (x : Str) (lo hi st : Option Int) : Str := ⟨((Builtin.Str.strSliceIndices lo hi (st.getD 1) x.length).filterMap (x.cps[·]?)).toArray⟩
noncomputable def sliceD (bs : List (List D)) (lo hi st : Option Int) : D → Option D
  | .lst l => if l.length ≤ 1000000 ∧ st ≠ some 0 then some (.lst (pickL l lo hi st)) else none
  | .box i => match bs[i]? with
    | some l => if l.length ≤ 1000000 ∧ st ≠ some 0 then some (.lst (pickL l lo hi st)) else none
    | none => none
  | .str x => if x.length ≤ 1000000 ∧ (pickS x lo hi st).length ≤ 1000000 ∧ st ≠ some 0 then some (.str (pickS x lo hi st)) else none
  | _ => none
theorem range_pick {α : Type} (l : List α) : (List.range l.length).filterMap (l[·]?) = l := by
  induction l with
  | nil => rfl
  | cons a l ih =>
    rw [List.length_cons, List.range_succ_eq_map, List.filterMap_cons, List.filterMap_map]
    simpa [Function.comp_def] using ih
theorem sliceRange_all {a b : Int} {n : Nat} (h : (sliceRange a b 1).length = n) (a0 : 0 ≤ a) (b1 : b ≤ n) : sliceRange a b 1 = List.range n := by
  unfold sliceRange at h ⊢
  simp only [show (1 : Int) > 0 from by decide, if_true] at h ⊢
  rw [List.length_map, List.length_range] at h
  rw [h]
  by_cases hn : n = 0
  · rw [hn]; rfl
  · have : a = 0 := by
      split at h
      · rw [Int.ediv_one] at h; omega
      · omega
    subst this
    simp
theorem strSlice_all {x : Str} {lo hi : Option Int} (h : (Builtin.Str.strSliceIndices lo hi 1 x.length).length = x.length) : (⟨((Builtin.Str.strSliceIndices lo hi 1 x.length).filterMap (x.cps[·]?)).toArray⟩ : Str) = x := by
  have key : Builtin.Str.strSliceIndices lo hi 1 x.length = List.range x.length := by
    unfold Builtin.Str.strSliceIndices at h ⊢
    simp only [show (1 : Int) > 0 from by decide, if_true] at h ⊢
    refine sliceRange_all h ?_ ?_
    · cases lo
      · exact Int.le_refl _
      · exact Int.le_max_left ..
    · cases hi
      · exact Int.le_refl _
      · dsimp only; omega
  rw [key]
  have q : x.length = x.cps.toList.length := by simp [Str.length]
  rw [q]
  have := range_pick x.cps.toList
  simp only [Array.getElem?_toList] at this
  rw [this]
theorem part_val {v : Value} {o : Option Int} (p : IsPart v o) : ∃ q : Option (Int × Tok), v = partValue q ∧ q.map (·.1) = o := by
  cases p with
  | none => exact ⟨none, rfl, rfl⟩
  | int i t => exact ⟨some (i, t), rfl, rfl⟩
theorem pick_den {g : Gh} {h : Heap} {vs : List Value} {ds : List D} (r : DenAll g h vs ds) : ∀ ix : List Nat, DenAll g h (ix.filterMap (vs[·]?)) (ix.filterMap (ds[·]?))
  | [] => .nil
  | i :: ix => by
    rw [List.filterMap_cons, List.filterMap_cons]
    cases e : vs[i]? with
    | none =>
      have : ds[i]? = none := by rw [List.getElem?_eq_none_iff] at e ⊢; rw [← r.length]; exact e
      rw [this]
      exact pick_den r ix
    | some v =>
      obtain ⟨d, e', dn⟩ := r.get' e
      rw [e']
      exact .cons dn (pick_den r ix)
theorem wp_listSlice {A : Around} {s : Shared} {E : Value → Shared → Prop} {Q : Value → Shared → Prop} {a sl : Addr} {vs : List Value} {n : Nat} {g : Gh} {ds : List D} {vl vu vt : Value} {lo hi st : Option Int}
    (h1 : s.heap.get? a = some (lstO vs n)) (r : DenAll g s.heap vs ds) (hs : s.heap.IsSliceOf sl vl vu vt) (pl : IsPart vl lo) (pu : IsPart vu hi) (pt : IsPart vt st) (h0 : st ≠ some 0) (hz : ds.length ≤ 1000000) (hnew : ¬ g.mu s.heap.objs.size)
    (h : ∀ v o, Den g (s.heap.push o) v (.lst (pickL ds lo hi st)) → Q v { s with heap := s.heap.push o }) : wpAny (model c.prog c.w) A (getItem (.ref a) (.ref sl)) Q E s := by
  have hl : s.heap.IsList a vs.toArray := ⟨_, h1, rfl, n, rfl⟩
  refine wpAny_getItem_list_slice hl hs pl pu pt h0 (h _ _ ?_) (by rw [List.size_toArray, r.length, sizeLine_eq]; omega)
  refine .lst (n := 0) (Heap.get?_push_size _ rfl) hnew ?_
  have e : slicePick vs.toArray lo hi st = (pickL vs lo hi st).toArray := by
    unfold slicePick pickL
    simp
  have : pickL ds lo hi st = (sliceRange (sliceBounds lo hi st vs.length).1 (sliceBounds lo hi st vs.length).2.1 (sliceBounds lo hi st vs.length).2.2).filterMap (ds[·]?) := by unfold pickL; rw [r.length]
  rw [this]
  have q := (pick_den r (sliceRange (sliceBounds lo hi st vs.length).1 (sliceBounds lo hi st vs.length).2.1 (sliceBounds lo hi st vs.length).2.2)).go (Go.push (g := g) (h := s.heap) { cls := .type "list", data := .seq (slicePick vs.toArray lo hi st) })
  simpa using q
theorem IE_slice {x : Expr} {lo hi st : Option Expr} {p pos : Pos} {f : Mx D} {ml mh mt : Mx (Option Int)} (hx : IE c F x f) (hl : IP c F lo ml) (hu : IP c F hi mh) (ht : IP c F st mt) :
    IE c F (.Subscript x (.Slice lo hi st p) pos) (bd f fun a => bd ml fun l => bd mh fun u => bd mt fun t => fun σ => (sliceD σ.b l u t a).map fun d => (d, σ)) := by
  intro A s σ g d σ' room R hm Q E hQ
  obtain ⟨a, σ1, q1, hm⟩ := bd_some hm
  obtain ⟨l, σ2, q2, hm⟩ := bd_some hm
  obtain ⟨u, σ3, q3, hm⟩ := bd_some hm
  obtain ⟨t, σ4, q4, hm⟩ := bd_some hm
  obtain ⟨d', hd, hm⟩ := Option.map_eq_some_iff.mp hm
  cases hm
  have hs : ∀ o v, ∃ ops, subscripted (.Slice lo hi st p) false o v = operate ops (getItem o v) := fun o v => by
    cases st with
    | none => exact ⟨[v, o], rfl⟩
    | some e => exact ⟨[o, v], rfl⟩
  refine Subscript_ (hx A s σ g a σ1 room R q1 _ _ fun va s1 g1 R1 d1 x1 => wpAny_Slice (hl A s1 σ1 g1 l σ2 room R1 q2 _ _ fun vl s2 g2 R2 pl x2 => hu A s2 σ2 g2 u σ3 room R2 q3 _ _ fun vu s3 g3 R3 pu x3 => ht A s3 σ3 g3 t _ room R3 q4 _ _ fun vt s4 g4 R4 pt x4 => ?_))
  have d1 := (d1.go (R1.go ((x2.trans x3).trans x4))).go (Go.push (g := g4) { cls := .type "slice", data := .fields #[vl, vu, vt] })
  have R5 := R4.push (tk := s4.toks) { cls := .type "slice", data := .fields #[vl, vu, vt] }
  have K : Kt c F _ g4 { s4 with heap := s4.heap.push { cls := .type "slice", data := .fields #[vl, vu, vt] } } d Q :=
    fun v s6 g6 R6 d6 x6 => hQ v s6 g6 R6 d6 (((((x1.trans x2).trans x3).trans x4).trans (Ext.push _)).trans x6)
  have S := Heap.IsSliceOf.new s4.heap vl vu vt
  obtain ⟨ops, hs⟩ := hs va (.ref s4.heap.objs.size)
  clear hQ q1 q2 q3 q4
  unfold sliceD at hd
  split at hd
  · split at hd
    · rename_i hz
      cases hd
      obtain ⟨_, _, _, rfl, h1, m1, r1⟩ := d1.lstI
      exact tail_any ⟨_, h1, rfl⟩ slot_list_getitem.lookup (wp_listSlice h1 r1 S pl pu pt hz.2 hz.1 R5.new fun v o dn => K.push R5 dn) hs
    · cases hd
  · split at hd
    · rename_i l' el
      split at hd
      · rename_i hz
        cases hd
        obtain ⟨_, rfl, hb⟩ := d1.boxI
        obtain ⟨vs, n, h1, r1⟩ := R5.box _ _ _ hb el
        exact tail_any ⟨_, h1, rfl⟩ slot_list_getitem.lookup (wp_listSlice h1 r1 S pl pu pt hz.2 hz.1 R5.new fun v o dn => K.push R5 dn) hs
      · cases hd
    · cases hd
  · split at hd
    · rename_i hz
      cases hd
      obtain ⟨_, rfl⟩ := d1.strI
      obtain ⟨ql, rfl, rfl⟩ := part_val pl
      obtain ⟨qu, rfl, rfl⟩ := part_val pu
      obtain ⟨qt, rfl, rfl⟩ := part_val pt
      refine tail_any (typeIs_str _ _ _) PySem.F.slot_str_getitem.lookup (wpAny_getItem_str_slice (l := ql) (u := qu) (st := qt) S ?_ ?_) hs
      · cases qt with
        | none => rfl
        | some p => simpa using hz.2.2
      · have pe : ∀ x : Str, (⟨((slicePicked x ql qu qt).filterMap (x.cps[·]?)).toArray⟩ : Str) = pickS x (ql.map (·.1)) (qu.map (·.1)) (qt.map (·.1)) := fun _ => rfl
        unfold sliceMade
        split
        · rename_i hall
          rw [Bool.and_eq_true, beq_iff_eq, beq_iff_eq] at hall
          have e := strSlice_all (x := _) (lo := ql.map (·.1)) (hi := qu.map (·.1)) (by
            have := hall.2
            unfold slicePicked at this
            rw [hall.1] at this
            exact this)
          refine K.flat0 R5 ?_
          unfold pickS
          rw [hall.1, e]
          exact .str _ _
        · refine ⟨?_, ?_⟩
          · rw [pe, sizeLine_eq]; have := hz.2.1; omega
          · rw [pe]
            exact K.flat R5 (.str _ _)
    · cases hd
  · cases hd
end Mine
end
section
open PySem PySem.W PyProof.Rows PySem.SeqAt PySem.Spec
set_option autoImplicit false
namespace Mine
variable {c : Cx} {F : Frm}
theorem nodup_inj {α : Type} : ∀ {l : List α}, l.Nodup → ∀ {i j : Nat} {x : α}, l[i]? = some x → l[j]? = some x → i = j
  | [], _, _, _, _, h, _ => by simp at h
  | a :: l, hn, i, j, x, h1, h2 => by
    rw [List.nodup_cons] at hn
    cases i with
    | zero =>
      cases j with
      | zero => rfl
      | succ j => simp at h1 h2; subst h1; exact absurd (List.mem_of_getElem? h2) hn.1
    | succ i =>
      cases j with
      | zero => simp at h1 h2; subst h2; exact absurd (List.mem_of_getElem? h1) hn.1
      | succ j => simp at h1 h2; rw [nodup_inj hn.2 h1 h2]
theorem Rel.setC {σ : MS} {g : Gh} {s : Shared} (R : Rel c F σ g s) {i : Nat} {x : Str} {a : Addr} {v : Value} {d : D} {h' : Heap} {tk : Nat} (hx : F.names[i]? = some x) (hk : F.env.kindOf x = some .cell) (ea : F.env.cells.lookup x = some a) (hw : a ∈ F.ws)
    (hc : h'.IsCell a (some v)) (hs : Heap.SameBut a s.heap h') (dn : Den g s.heap v d) :
    Rel c F { σ with v := σ.v.set i (some d) } g { s with heap := h', toks := tk } ∧ Ext c (F.W g) g g s.heap h' := by
  obtain ⟨_, v₀, oa, hoa, hda⟩ := R.cellx x a ea
  have am : g.mu a := R.wmu a hw
  have hkeep : ∀ b o, b ≠ a → s.heap.get? b = some o → h'.get? b = some o := fun b o q e => (hs.2 b q).trans e
  have th : ∀ b o', s.heap.get? b = some o' → ∃ o'', h'.get? b = some o'' := fun b o' e => by
    by_cases hb : b = a
    · subst hb; obtain ⟨o₁, h1, _⟩ := hc; exact ⟨o₁, h1⟩
    · exact ⟨o', hkeep b o' hb e⟩
  have nod : ∀ vs n, oa.data ≠ .seq vs n := fun vs n q => by rw [hda] at q; cases q
  have hr := R.notAcc hoa nod
  have hbx := R.notBox hoa nod
  obtain ⟨W', G⟩ := R.wd.step (mu' := g.mu) (tk := tk) (h' := h') (fun b => b = a) (fun b q => by subst q; exact ⟨am, hr⟩) (fun b o' q e => hkeep b o' q e) (fun _ _ _ q => q) R.wd.rmu
    fun b q => ⟨(R.wd.mub b q).1, let ⟨o', e⟩ := (R.wd.mub b q).2; th b o' e⟩
  obtain ⟨m, oL, es, ep, hoL, hdL, r1⟩ := R.loc
  have hLa : F.env.locals ≠ a := fun q => by rw [q, hoa] at hoL; cases hoL; rw [hda] at hdL; cases hdL
  refine ⟨⟨W', R.fo, ⟨m, oL, es, ep, hkeep _ _ hLa hoL, hdL, r1⟩, fun j y d' e1 e2 => ?_, fun y b e => ?_, R.wmu, R.blen, R.bmu, R.bnd, fun j b l e1 e2 => ?_⟩,
    fun b o' hW _ e => hkeep b o' (fun q => hW (q ▸ mem_W_ws hw)) e, th, fun _ _ _ q => q, fun _ _ _ q => q, ⟨[], by simp, by simp⟩, ⟨[], by simp, by simp⟩⟩
  · by_cases hj : j = i
    · subst hj
      rw [hx] at e1; cases e1
      have : d' = d := by
        have q : (σ.v.set j (some d))[j]? = some (some d') := e2
        rw [List.getElem?_set_self' ] at q
        cases z : σ.v[j]? with
        | none => rw [z] at q; cases q
        | some _ => rw [z] at q; cases q; rfl
      subst this
      exact ⟨v, .inr ⟨.inl hk, a, ea, hc⟩, dn.go G⟩
    · have q : (σ.v.set i (some d))[j]? = some (some d') := e2
      rw [List.getElem?_set_ne (fun z => hj z.symm)] at q
      obtain ⟨v', V, dn'⟩ := R.vars j y d' e1 q
      refine ⟨v', ?_, dn'.go G⟩
      rcases V with ⟨k, m', hn, ev⟩ | ⟨k, b, eb, ob, hob, rb⟩
      · exact .inl ⟨k, m', hn.at' fun o e => hkeep _ o hLa e, ev⟩
      · refine .inr ⟨k, b, eb, ob, hkeep b ob (fun z => ?_) hob, rb⟩
        subst z
        have := R.fo.apart _ _ _ eb ea
        subst this
        exact hj (nodup_inj R.fo.nod e1 hx)
  · by_cases hb : b = a
    · subst hb
      exact ⟨.inl am, _, hc⟩
    · obtain ⟨q, v', ob, hob, rb⟩ := R.cellx y b e
      exact ⟨q, v', ob, hkeep b ob hb hob, rb⟩
  · obtain ⟨vs, n, h1, h2⟩ := R.box j b l e1 e2
    exact ⟨vs, n, hkeep b _ (fun q => hbx (q ▸ List.mem_of_getElem? e1)) h1, h2.go G⟩
noncomputable def wr (i : Nat) (d : D) (σ : MS) : MS := { σ with v := σ.v.set i (some d) }
noncomputable def Storable (F : Frm) (x : Str) : Prop := F.env.kindOf x = some .local ∨ (F.env.kindOf x = some .cell ∧ ∃ a, F.env.cells.lookup x = some a ∧ a ∈ F.ws)
theorem wp_store {A : Around} {σ : MS} {g : Gh} {s : Shared} (R : Rel c F σ g s) {i : Nat} {x : Str} {v : Value} {d : D} (hx : F.names[i]? = some x) (hk : Storable F x) (dn : Den g s.heap v d)
    {Q : Unit → Shared → Prop} {E : Value → Shared → Prop} (hQ : ∀ s', Rel c F (wr i d σ) g s' → Ext c (F.W g) g g s.heap s'.heap → Q () s') : wpAny (model c.prog c.w) A (storeName F.env x v) Q E s := by
  rcases hk with k | ⟨k, a, ea, hw⟩
  · obtain ⟨m, hm⟩ := R.loc
    refine wpAny_storeName_local k hm (fun h' hn hs => ?_) (by rw [R.fo.kind]; rfl)
    have hkm : ∀ b o, ¬ g.mu b → s.heap.get? b = some o → h'.get? b = some o := fun b o q e => (hs.2 b (fun z => q (z ▸ R.wmu _ R.fo.wl))).trans e
    have G : Go g g s.heap h' := ⟨fun b o q _ e => hkm b o q e, fun _ _ _ q => q, fun _ _ q => q, fun _ _ q => q⟩
    obtain ⟨R', x'⟩ := R.setL (tk := s.toks + 1) hn (fun b o q e => (hs.2 b q).trans e) (σ.v.set i (some d)) fun j y d' e1 e2 => by
      by_cases hj : j = i
      · subst hj
        rw [hx] at e1; cases e1
        have : d' = d := by
          rw [List.getElem?_set_self'] at e2
          cases z : σ.v[j]? with
          | none => rw [z] at e2; cases e2
          | some _ => rw [z] at e2; cases e2; rfl
        subst this
        exact .inl ⟨k, v, by simp, dn.go G⟩
      · rw [List.getElem?_set_ne (fun z => hj z.symm)] at e2
        have hyx : y ≠ x := fun q => by
          subst q
          exact hj (nodup_inj R.fo.nod e1 hx)
        obtain ⟨v', V, dn'⟩ := R.vars j y d' e1 e2
        rcases V with ⟨k', m', hn', ev⟩ | ⟨k', _⟩
        · rw [Ns.unique hn' hm] at ev
          exact .inl ⟨k', v', by rw [if_neg hyx]; exact ev, dn'.go G⟩
        · exact .inr ⟨(by rcases k' with k' | k' <;> rw [k'] <;> simp), e2⟩
    exact hQ _ R' x'
  · obtain ⟨_, v₀, hv₀⟩ := R.cellx x a ea
    refine wpAny_storeName_cell R.fo.kind k ea hv₀ fun h' hc hs => ?_
    obtain ⟨R', x'⟩ := R.setC (tk := s.toks) hx k ea hw hc hs dn
    exact hQ _ R' x'
theorem I1_assign (i : Nat) {x : Str} {p pos : Pos} {e : Expr} {f : Mx D} (hx : F.names[i]? = some x) (hk : Storable F x) (he : IE c F e f)
    (hs : swapsWith e (some (.Name x p)) pos.line F.env = pure false := by rfl) : I1 c F (.Assign [.Name x p] e pos) (bd f fun d => fun σ => some (.next, wr i d σ)) := by
  intro A s σ g fl σ' room R hm Q E hQ
  obtain ⟨d, σ1, q1, hm⟩ := bd_some hm
  cases hm
  refine wpAny_Assign_Name (he A s σ g d σ1 room R q1 _ _ fun v s1 g1 R1 d1 x1 => ?_) hs
  exact wp_store R1 hx hk d1 fun s2 R2 x2 => hQ _ s2 g1 R2 trivial (x1.trans x2)
theorem I1_ret {e : Expr} {pos : Pos} {f : Mx D} (he : IE c F e f) : I1 c F (.Return (some e) pos) (bd f fun d => rt (.ret d)) := by
  intro A s σ g fl σ' room R hm Q E hQ
  obtain ⟨d, σ1, q1, hm⟩ := bd_some hm
  cases hm
  exact wpAny_Return_some (he A s σ g d _ room R q1 _ _ fun v s1 g1 R1 d1 x1 => hQ _ s1 g1 R1 d1 x1)
theorem I1_brk {pos : Pos} : I1 c F (.Break pos) (rt .brk) := by
  intro A s σ g fl σ' room R hm Q E hQ
  cases hm
  exact wpAny_Break (hQ _ s g R trivial (Ext.refl ..))
theorem I1_if {t : Expr} {b o : List Stmt} {pos : Pos} {mt : Mx Bool} {mb mo : Mx Fl} (ht : IT c F t mt) (hb : IS c F b mb) (ho : IS c F o mo) :
    I1 c F (.If t b o pos) (bd mt fun x => if x then mb else mo) := by
  intro A s σ g fl σ' room R hm Q E hQ
  obtain ⟨x, σ1, q1, hm⟩ := bd_some hm
  refine wpAny_If (ht A s σ g x σ1 room R q1 _ _ fun s1 g1 R1 x1 => ?_)
  cases x with
  | true => exact hb A s1 σ1 g1 fl σ' room R1 hm Q E fun f s2 g2 R2 d2 x2 => hQ f s2 g2 R2 d2 (x1.trans x2)
  | false => exact ho A s1 σ1 g1 fl σ' room R1 hm Q E fun f s2 g2 R2 d2 x2 => hQ f s2 g2 R2 d2 (x1.trans x2)
theorem IS_nil : IS c F [] (rt .next) := by
  intro A s σ g fl σ' room R hm Q E hQ
  cases hm
  exact wpAny_execs_nil (hQ _ s g R trivial (Ext.refl ..))
noncomputable def sq (m k : Mx Fl) : Mx Fl := bd m fun f => match f with
  | .next => k
  | f => rt f
theorem IS_cons {st : Stmt} {l : List Stmt} {m k : Mx Fl} (h1 : I1 c F st m) (h2 : IS c F l k) : IS c F (st :: l) (sq m k) := by
  intro A s σ g fl σ' room R hm Q E hQ
  obtain ⟨f, σ1, q1, hm⟩ := bd_some hm
  refine wpAny_execs_cons (h1 A s σ g f σ1 room R q1 _ _ fun fl' s1 g1 R1 d1 x1 => ?_)
  cases f with
  | next =>
    cases fl' with
    | next => exact h2 A s1 σ1 g1 fl σ' room R1 hm Q E fun f s2 g2 R2 d2 x2 => hQ f s2 g2 R2 d2 (x1.trans x2)
    | _ => exact d1.elim
  | brk =>
    cases hm
    cases fl' with
    | brk => exact hQ _ s1 g1 R1 trivial x1
    | _ => exact d1.elim
  | ret d =>
    cases hm
    cases fl' with
    | ret v => exact hQ _ s1 g1 R1 d1 x1
    | _ => exact d1.elim
theorem I1_expr {e : Expr} {pos : Pos} {f : Mx D} (he : IE c F e f) (hi : interactive F.env = false := by rfl) (hs : swapsWith e none pos.line F.env = pure false := by rfl) :
    I1 c F (.Expr e pos) (bd f fun d => match d with | .none => rt .next | _ => fun _ => none) := by
  intro A s σ g fl σ' room R hm Q E hQ
  obtain ⟨d, σ1, q1, hm⟩ := bd_some hm
  refine wpAny_Expr (he A s σ g d σ1 room R q1 _ _ fun v s1 g1 R1 d1 x1 => ?_) hi hs
  cases d <;> first | (cases hm; cases d1; exact hQ _ s1 g1 R1 trivial x1) | cases hm
theorem I1_aug (i : Nat) {x : Str} {p pos : Pos} {e : Expr} {f : Mx D} (hx : F.names[i]? = some x) (hk : F.env.kindOf x = some .local) (he : IE c F e f) :
    I1 c F (.AugAssign (.Name x p) .Add e pos) (bd (rd i) fun a => bd f fun b => match a, b with
      | .str y, .str z => if y.length + z.length ≤ 1000000 then fun σ => some (.next, wr i (.str (y ++ z)) σ) else fun _ => none
      | _, _ => fun _ => none) := by
  intro A s σ g fl σ' room R hm Q E hQ
  obtain ⟨a, σ1, q1, hm1⟩ := bd_some hm
  obtain ⟨e1, e2⟩ := rd_some q1
  subst e2
  obtain ⟨b, σ2, q2, hm2⟩ := bd_some hm1
  clear hm hm1 q1
  obtain ⟨v, V, dn⟩ := R.vars i x a hx e1
  have ld : ∀ Q', Q' v s → wpAny (model c.prog c.w) A (loadName F.env x) Q' E s := fun Q' q => by
    rcases V with ⟨k, m, hn, ev⟩ | ⟨k | k, _⟩
    · exact wpAny_loadName_local R.fo.kind k hn ev q
    · rw [hk] at k; cases k
    · rw [hk] at k; cases k
  refine wpAny_AugAssign_Name (ld _ (he A s σ g b σ2 room R q2 _ _ fun vb s1 g1 R1 d1 x1 => ?_))
  have dn := dn.go (R.go x1)
  split at hm2
  · split at hm2
    · rename_i hz
      cases hm2
      obtain ⟨_, rfl⟩ := dn.strI; obtain ⟨_, rfl⟩ := d1.strI
      refine PyProof.Rows.iadd_str (fun t' tk => ?_) (by rw [sizeLine_eq]; omega)
      exact wp_store R1.tok hx (.inl hk) (.str _ _) fun s2 R2 x2 => hQ _ s2 g1 R2 trivial (x1.trans x2)
    · cases hm2
  · cases hm2
end Mine
end
section
open PySem PySem.W PyProof.Rows PySem.SeqAt PySem.Spec
set_option autoImplicit false
namespace Mine
variable {c : Cx} {F : Frm}
noncomputable def wrs : List Nat → List D → MS → MS
  | i :: is, d :: ds, σ => wrs is ds (wr i d σ)
  | _, _, σ => σ
inductive Names (F : Frm) : List Expr → List Nat → Prop
  | nil : Names F [] []
  | cons {x : Str} {p : Pos} {i : Nat} {es : List Expr} {is : List Nat} : F.names[i]? = some x → Storable F x → Names F es is → Names F (.Name x p :: es) (i :: is)
noncomputable def Un (g : Gh) (h : Heap) (v : Value) (ds : List D) : Prop := ∃ T vals, v = .ref T ∧ (h.IsTuple T vals ∨ h.IsList T vals) ∧ DenAll g h vals.toList ds
theorem wp_stores {A : Around} {E : Value → Shared → Prop} : ∀ {es : List Expr} {is : List Nat} {vs : List Value} {ds : List D} {σ : MS} {g : Gh} {s : Shared} {Q : Unit → Shared → Prop}, Names F es is → Rel c F σ g s → DenAll g s.heap vs ds →
    (∀ s', Rel c F (wrs is ds σ) g s' → Ext c (F.W g) g g s.heap s'.heap → Q () s') → wpAny (model c.prog c.w) A (assignInOrder ((assignEach es F.env).map (·.2)) vs) Q E s
  | _, _, vs, ds, σ, g, s, Q, .nil, R, r, hQ => by
    have q := hQ s (by cases ds <;> exact R) (Ext.refl ..)
    cases vs <;> exact wpAny_pure q
  | _, _, _, _, σ, g, s, Q, .cons hx hk n, R, .nil, hQ => wpAny_pure (hQ s R (Ext.refl ..))
  | _, _, _, _, σ, g, s, Q, .cons (x := x) (p := p) (i := i) (es := es) hx hk n, R, .cons (v := v) (vs := vs) a r, hQ => by
    show wpAny (model c.prog c.w) A (do holding vs (assign (.Name x p) F.env v); assignInOrder ((assignEach es F.env).map (·.2)) vs) Q E s
    refine wpAny_bind (wpAny_holding (wpAny_assign_Name (wp_store R hx hk a fun s' R' x' => ?_)))
    exact wp_stores n R' (r.go (R.go x')) fun s'' R'' x'' => hQ s'' R'' (x'.trans x'')
theorem names_len {es : List Expr} {is : List Nat} (n : Names F es is) : (assignEach es F.env).length = is.length ∧ (assignEach es F.env).findIdx? (·.1) = none := by
  induction n with
  | nil => exact ⟨rfl, rfl⟩
  | cons _ _ _ ih =>
    obtain ⟨h1, h2⟩ := ih
    refine ⟨by simp [assignEach, h1], ?_⟩
    simp only [assignEach, List.findIdx?_cons, Bool.false_eq_true, if_false, h2]
    rfl
theorem wp_assignT {A : Around} {σ : MS} {g : Gh} {s : Shared} {E : Value → Shared → Prop} {Q : Unit → Shared → Prop} {es : List Expr} {is : List Nat} {k : Nat} {pos : Pos} {v : Value} {ds : List D} (n : Names F es is) (hh : A.handled = none) (R : Rel c F σ g s) (u : Un g s.heap v ds)
    (hl : ds.length = is.length) (hQ : ∀ s', Rel c F (wrs is ds σ) g s' → Ext c (F.W g) g g s.heap s'.heap → Q () s') : wpAny (model c.prog c.w) A (assign (.Tuple es k pos) F.env v) Q E s := by
  obtain ⟨T, vals, rfl, ht, r⟩ := u
  obtain ⟨n1, n2⟩ := names_len n
  have hlen : (assignEach es F.env).length = vals.size := by rw [n1, ← hl, ← r.length]; simp
  have go : ∀ h', Heap.ExtBut s.heap.objs.size s.heap h' → wpAny (model c.prog c.w) A (assignInOrder ((assignEach es F.env).map (·.2)) vals.toList) Q E { s with heap := h' } := fun h' hx => by
    have hk : ∀ b o, s.heap.get? b = some o → h'.get? b = some o := fun b o e => hx b o (Nat.ne_of_lt (Heap.lt_size e)) e
    have R' := R.keeps (tk := s.toks) hk
    exact wp_stores n R' (r.go (Go.keeps hk)) fun s'' R'' x'' => hQ s'' R'' ((Ext.keeps hk).trans x'')
  rcases ht with ht | ht
  · exact wpAny_assign_Tuple hh ht hlen n2 go
  · rw [arm_assign_Tuple]
    refine wpAny_bind (wpAny_standAt ?_)
    unfold unpack
    rw [hlen, n2]
    exact wpAny_bind (wpAny_holding (kun_itemsOf hh ht go))
noncomputable def unD (bs : List (List D)) : D → Option (List D)
  | .tup l => some l
  | .lst l => some l
  | _ => none
theorem Den.un {g : Gh} {h : Heap} {v : Value} {d : D} {bs : List (List D)} {l : List D} (dn : Den g h v d) (e : unD bs d = some l) : Un g h v l := by
  cases dn <;> first | cases e | skip
  · rename_i h1 m1 r1; exact ⟨_, _, rfl, .inl ⟨_, h1, rfl, _, rfl⟩, by simpa using r1⟩
  · rename_i h1 m1 r1; exact ⟨_, _, rfl, .inr ⟨_, h1, rfl, _, rfl⟩, by simpa using r1⟩
theorem I1_assignT {es : List Expr} {is : List Nat} {k : Nat} {tpos pos : Pos} {e : Expr} {f : Mx D} (n : Names F es is) (he : IE c F e f)
    (hs : swapsWithSole [.Tuple es k tpos] e pos.line F.env = pure false := by rfl) (hw : swappedStores [.Tuple es k tpos] e F.env = pure none := by rfl) :
    I1 c F (.Assign [.Tuple es k tpos] e pos) (bd f fun d => bd (lf (unD [] d)) fun l => if l.length = is.length then fun σ => some (.next, wrs is l σ) else fun _ => none) := by
  intro A s σ g fl σ' room R hm Q E hQ
  obtain ⟨d, σ1, q1, hm1⟩ := bd_some hm
  obtain ⟨l, σ2, q2, hm2⟩ := bd_some hm1
  obtain ⟨q3, q4⟩ := lf_some q2
  dsimp only at q3 q4
  subst q4
  split at hm2
  · rename_i hl
    cases hm2
    refine Assign_Tuple (he A s σ g d σ1 room R q1 _ _ fun v s1 g1 R1 d1 x1 => ?_) hs hw
    exact wp_assignT n room.hh R1 (d1.un q3) hl fun s2 R2 x2 => hQ _ s2 g1 R2 trivial (x1.trans x2)
  · cases hm2
inductive Slots (F : Frm) : List Str → List Nat → Prop
  | nil : Slots F [] []
  | cons {x : Str} {i : Nat} {xs : List Str} {is : List Nat} : F.names[i]? = some x → Storable F x → Slots F xs is → Slots F (x :: xs) (i :: is)
theorem wp_binds {A : Around} {E : Value → Shared → Prop} : ∀ {xs : List Str} {is : List Nat} {vs : List Value} {ds : List D} {σ : MS} {g : Gh} {s : Shared} {Q : Unit → Shared → Prop}, Slots F xs is → Rel c F σ g s → DenAll g s.heap vs ds →
    (∀ s', Rel c F (wrs is ds σ) g s' → Ext c (F.W g) g g s.heap s'.heap → Q () s') → wpAny (model c.prog c.w) A (assignInOrder (xs.map fun n => bindName F.env n) vs) Q E s
  | _, _, vs, ds, σ, g, s, Q, .nil, R, r, hQ => by
    have q := hQ s (by cases ds <;> exact R) (Ext.refl ..)
    cases vs <;> exact wpAny_pure q
  | _, _, _, _, σ, g, s, Q, .cons hx hk n, R, .nil, hQ => wpAny_pure (hQ s R (Ext.refl ..))
  | _, _, _, _, σ, g, s, Q, .cons (x := x) (xs := xs) hx hk n, R, .cons (v := v) (vs := vs) a r, hQ => by
    show wpAny (model c.prog c.w) A (do holding vs (bindName F.env x v); assignInOrder (xs.map fun n => bindName F.env n) vs) Q E s
    refine wpAny_bind (wpAny_holding (wpAny_bindName (wp_store R hx hk a fun s' R' x' => ?_)))
    exact wp_binds n R' (r.go (R.go x')) fun s'' R'' x'' => hQ s'' R'' (x'.trans x'')
theorem slots_len {xs : List Str} {is : List Nat} (n : Slots F xs is) : xs.length = is.length := by
  induction n with
  | nil => rfl
  | cons _ _ _ ih => simp [ih]
theorem I1_assignW {es : List Expr} {xs : List Str} {is : List Nat} {k : Nat} {tpos pos : Pos} {e : Expr} {f : Mx D} (n : Slots F xs.reverse is) (he : IE c F e f)
    (hw : swappedStores [.Tuple es k tpos] e F.env = pure (some xs)) (hs : swapsWithSole [.Tuple es k tpos] e pos.line F.env = pure false := by rfl) :
    I1 c F (.Assign [.Tuple es k tpos] e pos) (bd f fun d => bd (lf (unD [] d)) fun l => if l.length = is.length then fun σ => some (.next, wrs is l.reverse σ) else fun _ => none) := by
  intro A s σ g fl σ' room R hm Q E hQ
  obtain ⟨d, σ1, q1, hm1⟩ := bd_some hm
  obtain ⟨l, σ2, q2, hm2⟩ := bd_some hm1
  obtain ⟨q3, q4⟩ := lf_some q2
  dsimp only at q3 q4
  subst q4
  split at hm2
  · rename_i hl
    cases hm2
    refine Assign_Tuple_swapped (he A s σ g d σ1 room R q1 _ _ fun v s1 g1 R1 d1 x1 => ?_) hs hw
    obtain ⟨T, vals, rfl, ht, r⟩ := d1.un q3
    have hlen : xs.length = vals.size := by
      have h1 := slots_len n
      have h2 := r.length
      rw [List.length_reverse] at h1
      rw [h1, ← hl, ← h2]; simp
    have go : ∀ h', Heap.ExtBut s1.heap.objs.size s1.heap h' → wpAny (model c.prog c.w) A (assignInOrder (xs.reverse.map fun n => bindName F.env n) vals.toList.reverse) (fun _ => Q .next) E { s1 with heap := h' } := fun h' hx => by
      have hk : ∀ b o, s1.heap.get? b = some o → h'.get? b = some o := fun b o e => hx b o (Nat.ne_of_lt (Heap.lt_size e)) e
      have R' := R1.keeps (tk := s1.toks) hk
      exact wp_binds n R' ((r.go (Go.keeps hk)).reverse) fun s'' R'' x'' => hQ _ s'' g1 R'' trivial (x1.trans ((Ext.keeps hk).trans x''))
    rw [hlen]
    rcases ht with ht | ht
    · exact wpAny_unpackItems_tuple room.hh ht go
    · exact kun_itemsOf room.hh ht go
  · cases hm2
end Mine
end
section
open PySem PySem.W PyProof.Rows PySem.SeqAt PySem.Spec
set_option autoImplicit false
namespace Mine
variable {c : Cx} {F : Frm}
noncomputable def ItemIs (t : Bool) (g : Gh) (h : Heap) (v : Value) (d : D) : Prop := match t with
  | false => Den g h v d
  | true => ∃ l, unD [] d = some l ∧ Un g h v l
noncomputable def Priv (F : Frm) (g : Gh) (wr : List Addr) : Prop := ∀ b ∈ wr, g.mu b ∧ b ∉ F.W g ∧ ∀ y, F.env.cells.lookup y ≠ some b
noncomputable def Itr (c : Cx) (F : Frm) (A : Around) (tgt : Expr) (t : Bool) (g : Gh) (h₀ h : Heap) (I : Addr) (ds : List D) : Prop :=
  ∃ (fp wr : List Addr) (P Md : Nat → Value → Heap → Prop) (St : Nat → Heap → Prop), KTurns c.prog c.w A tgt I fp wr ds.length P Md St ∧ St 0 h ∧ Priv F g wr ∧ (∀ b ∈ wr, h₀.get? b = none) ∧ (∀ i h', St i h' → ∀ b ∈ wr, ∃ o, h'.get? b = some o) ∧ (∀ i (s : Shared) (Q : Value → Shared → Prop) (E : Value → Shared → Prop), St i s.heap → Q (.ref I) s → wpAny (model c.prog c.w) A (pyIter (.ref I)) Q E s) ∧
    (∀ b ∈ fp, b ∈ wr ∨ (¬ g.mu b ∧ ∃ o, h.get? b = some o ∧ o.cls ≠ .none)) ∧
    ∀ i v h' g' d, P i v h' → Go g g' h h' → ds[i]? = some d → ItemIs t g' h' v d
noncomputable def IIt (c : Cx) (F : Frm) (tgt : Expr) (t : Bool) (e : Expr) (m : Mx (List D)) : Prop :=
  ∀ (A : Around) (s : Shared) (σ : MS) (g : Gh) (ds : List D) (σ' : MS), Room A F.k → Rel c F σ g s → m σ = some (ds, σ') →
    ∀ (Q : Value → Shared → Prop) (E : Value → Shared → Prop), (∀ I s' g', Rel c F σ' g' s' → (∀ A' : Around, A'.handled = none → Itr c F A' tgt t g' s.heap s'.heap I ds) → Ext c (F.W g) g g' s.heap s'.heap → Q (.ref I) s') →
      wpAny (model c.prog c.w) A (eval e F.env) (fun x s₁ => wpAny (model c.prog c.w) A (pyIter x) Q E s₁) E s
noncomputable def IA (c : Cx) (F : Frm) (tgt : Expr) (t : Bool) (m : D → MS → Option MS) : Prop :=
  ∀ (A : Around) (s : Shared) (σ σ' : MS) (g : Gh) (v : Value) (d : D), Room A F.k → Rel c F σ g s → ItemIs t g s.heap v d → m d σ = some σ' →
    ∀ (Q : Unit → Shared → Prop) (E : Value → Shared → Prop), (∀ s', Rel c F σ' g s' → Ext c (F.W g) g g s.heap s'.heap → Q () s') → wpAny (model c.prog c.w) A (assign tgt F.env v) Q E s
theorem IA_name (i : Nat) {x : Str} {p : Pos} (hx : F.names[i]? = some x) (hk : Storable F x) : IA c F (.Name x p) false fun d σ => some (wr i d σ) := by
  intro A s σ σ' g v d room R it hm Q E hQ
  cases hm
  exact wpAny_assign_Name (wp_store R hx hk it hQ)
theorem IA_tuple {es : List Expr} {is : List Nat} {k : Nat} {p : Pos} (n : Names F es is) : IA c F (.Tuple es k p) true fun d σ => match unD [] d with
    | some l => if l.length = is.length then some (wrs is l σ) else none
    | none => none := by
  intro A s σ σ' g v d room R it hm Q E hQ
  obtain ⟨l, e, u⟩ := it
  dsimp only at hm
  rw [e] at hm
  dsimp only at hm
  split at hm
  · rename_i hl
    cases hm
    exact wp_assignT n room.hh R u hl hQ
  · cases hm
noncomputable def loopM (asg : D → MS → Option MS) (body els : Mx Fl) : List D → Mx Fl
  | [] => els
  | d :: ds => fun σ => match asg d σ with
    | none => none
    | some σ1 => match body σ1 with
      | none => none
      | some (.next, σ2) => loopM asg body els ds σ2
      | some (.brk, σ2) => some (.next, σ2)
      | some (.ret d, σ2) => some (.ret d, σ2)
theorem priv_go {g g' : Gh} {h h' : Heap} {wr : List Addr} (p : Priv F g wr) (x : Ext c (F.W g) g g' h h') (hex : ∀ b ∈ wr, ∃ o, h.get? b = some o) : Priv F g' wr := by
  intro b hb
  obtain ⟨p1, p2, p3⟩ := p b hb
  obtain ⟨o, e⟩ := hex b hb
  refine ⟨x.mu2 b o e p1, fun hm => ?_, p3⟩
  obtain ⟨lr, hr, hrl⟩ := x.rho
  obtain ⟨lb, hbt, hbl⟩ := x.bet
  unfold Frm.W at hm p2
  rw [List.mem_append, List.mem_append] at hm
  rw [List.mem_append, List.mem_append, not_or, not_or] at p2
  rcases hm with (hm | hm) | hm
  · exact p2.1.1 hm
  · rw [hr, List.mem_append] at hm
    rcases hm with hm | hm
    · exact p2.1.2 hm
    · have := hrl b hm; rw [e] at this; cases this
  · rw [mem_boxes, hbt, List.mem_append] at hm
    rcases hm with hm | hm
    · exact p2.2 (mem_boxes.mpr hm)
    · have := hbl b hm; rw [e] at this; cases this
theorem Rel.priv {σ : MS} {g : Gh} {s : Shared} (R : Rel c F σ g s) {h' : Heap} {tk : Nat} {wr : List Addr} (p : Priv F g wr) (hk : ∀ b o, b ∉ wr → s.heap.get? b = some o → h'.get? b = some o) (hex : ∀ b ∈ wr, ∃ o, h'.get? b = some o) :
    Rel c F σ g { s with heap := h', toks := tk } :=
  R.step (mu' := g.mu) (tk := tk) (fun b => b ∈ wr) (fun b q => p b q) (fun b o q e => hk b o q e) (fun _ _ _ q => q) (fun _ q _ => q) fun b q => ⟨(R.wd.mub b q).1, by
    by_cases hb : b ∈ wr
    · exact hex b hb
    · obtain ⟨o, e⟩ := (R.wd.mub b q).2
      exact ⟨o, hk b o hb e⟩⟩
theorem Rel.over {σ : MS} {g : Gh} {s : Shared} (R : Rel c F σ g s) {h' : Heap} {tk : Nat} {wr : List Addr} (p : Priv F g wr) (hk : ∀ b o, b ∉ wr → s.heap.get? b = some o → h'.get? b = some o) :
    Rel c F σ { g with mu := fun b => g.mu b ∧ b ∉ wr } { s with heap := h', toks := tk } :=
  R.step (mu' := fun b => g.mu b ∧ b ∉ wr) (tk := tk) (fun b => b ∈ wr) (fun b q => p b q) (fun b o q e => hk b o q e) (fun _ _ _ q => q.1)
    (fun b q z => ⟨q, fun hb => by
      rcases z with z | ⟨y, z⟩
      · exact (p b hb).2.1 z
      · exact (p b hb).2.2 y z⟩) fun b q => ⟨(R.wd.mub b q.1).1, by
    obtain ⟨o, e⟩ := (R.wd.mub b q.1).2
    exact ⟨o, hk b o q.2 e⟩⟩
theorem Go.trans {g g' g'' : Gh} {h h' h'' : Heap} (x : Go g g' h h') (y : Go g' g'' h' h'') (th : ∀ b o, h.get? b = some o → ∃ o', h'.get? b = some o') : Go g g'' h h'' :=
  ⟨fun b o q hc e => y.keep b o (fun z => q (x.mu b o e z)) hc (x.keep b o q hc e), fun b o e q => let ⟨o', e'⟩ := th b o e; x.mu b o e (y.mu b o' e' q), fun i a e => y.rho i a (x.rho i a e), fun i a e => y.bet i a (x.bet i a e)⟩
theorem Ext.skip {g g' : Gh} {h h' h'' : Heap} {W wr : List Addr} (x : Ext c W g g' h h') (hn : ∀ b ∈ wr, h.get? b = none) (hk : ∀ b o, b ∉ wr → h'.get? b = some o → h''.get? b = some o) : Ext c W g g' h h'' := by
  have nw : ∀ b o, h.get? b = some o → b ∉ wr := fun b o e q => by have := hn b q; rw [e] at this; cases this
  exact ⟨fun b o hW ht e => hk b o (nw b o e) (x.keep b o hW ht e), fun b o e => let ⟨o', e'⟩ := x.there b o e; ⟨o', hk b o' (nw b o e) e'⟩, x.mu1, x.mu2, x.rho, x.bet⟩
set_option maxHeartbeats 1000000 in
structure TurnOk (c : Cx) (F : Frm) (W : List Addr) (i : Nat) (σ : MS) (g₀ g0 g : Gh) (h₀ h0 : Heap) (wr fp : List Addr) (St : Nat → Heap → Prop) (s : Shared) : Prop where
  R : Rel c F σ g s
  st : St i s.heap
  p : Priv F g wr
  fp : ∀ b ∈ fp, b ∈ wr ∨ (¬ g.mu b ∧ ∃ o, s.heap.get? b = some o ∧ o.cls ≠ .none)
  G : Go g0 g h0 s.heap
  th : ∀ b o, h0.get? b = some o → ∃ o', s.heap.get? b = some o'
  x : Ext c W g₀ g h₀ s.heap
theorem TurnOk.step {W : List Addr} {i tk : Nat} {σ1 σ5 : MS} {g₀ g0 g1 g5 : Gh} {h₀ h0 h3 : Heap} {wr fp : List Addr} {St : Nat → Heap → Prop} {s1 s5 : Shared} (T : TurnOk c F W i σ1 g₀ g0 g1 h₀ h0 wr fp St s1)
    (frame : ∀ h', (∀ b ∈ fp, ∀ o, h3.get? b = some o → h'.get? b = some o) → St (i + 1) h') (ex3 : ∀ b ∈ wr, ∃ o, h3.get? b = some o) (hk : ∀ b o, b ∉ wr → s1.heap.get? b = some o → h3.get? b = some o)
    (R3 : Rel c F σ1 g1 { s1 with heap := h3, toks := tk }) (R5 : Rel c F σ5 g5 s5) (x45 : Ext c (F.W g1) g1 g5 h3 s5.heap) (x5 : Ext c W g₀ g5 h₀ s5.heap) : TurnOk c F W (i + 1) σ5 g₀ g0 g5 h₀ h0 wr fp St s5 := by
  obtain ⟨R1, st1, p1, fp1, G1, th1, x1⟩ := T
  have th3 : ∀ b o, s1.heap.get? b = some o → ∃ o', h3.get? b = some o' := fun b o e => by
    by_cases hbw : b ∈ wr
    · exact ex3 b hbw
    · exact ⟨o, hk b o hbw e⟩
  have Gs : Go g1 g1 s1.heap h3 := ⟨fun b o q _ e => hk b o (fun z => q (p1 b z).1) e, fun _ _ _ q => q, fun _ _ q => q, fun _ _ q => q⟩
  have Go45 : Go g1 g5 h3 s5.heap := R3.go x45
  have old : ∀ b ∈ fp, b ∈ wr ∨ (¬ g1.mu b ∧ ∃ o, h3.get? b = some o ∧ o.cls ≠ .none) := fun b hbf => (fp1 b hbf).imp id fun ⟨hnm, o', e', hc⟩ => ⟨hnm, o', Gs.keep b o' hnm hc e', hc⟩
  refine ⟨R5, frame _ fun b hbf o e => ?_, priv_go p1 x45 ex3, fun b hbf => (old b hbf).imp id fun ⟨hnm, o', e2, hc⟩ => ⟨fun z => hnm (Go45.mu b o' e2 z), o', Go45.keep b o' hnm hc e2, hc⟩, (G1.trans Gs th1).trans Go45 (fun b o e => let ⟨o', e'⟩ := th1 b o e; th3 b o' e'),
    fun b o e => let ⟨o', e'⟩ := th1 b o e; let ⟨o'', e''⟩ := th3 b o' e'; x45.there b o'' e'', x5⟩
  rcases old b hbf with hw | ⟨hnm, o', e2, hc⟩
  · exact x45.keep b o (p1 b hw).2.1 (fun ht => Nat.lt_irrefl _ (Nat.lt_of_lt_of_le (R1.wd.tlow ht) (R1.wd.mub b (p1 b hw).1).1)) e
  · rw [e] at e2
    cases e2
    exact Go45.keep b o hnm hc e
theorem I1_for {tgt iter : Expr} {t : Bool} {body els : List Stmt} {pos : Pos} {mi : Mx (List D)} {asg : D → MS → Option MS} {mb me : Mx Fl} (hi : IIt c F tgt t iter mi) (ha : IA c F tgt t asg) (hb : IS c F body mb) (he : IS c F els me)
    (hs : ∀ x, foldedSetIterable iter F.env x = pure x := by intro _; rfl) : I1 c F (.For tgt iter body els pos) (bd mi fun ds => loopM asg mb me ds) := by
  intro A s σ g fl σ' room R hm Q E hQ
  obtain ⟨ds, σ0, q1, hm⟩ := bd_some hm
  refine wpAny_For (hi A s σ g ds σ0 room R q1 _ _ fun I s0 g0 R0 it x0 => ?_) hs
  obtain ⟨fp, wr, P, Md, St, K, st0, p0, wn, hob, _, fp0, items⟩ := it A room.hh
  refine codeAny_forLoop_any (R := fun r s' => match r with | .ok f => Q f s' | .error e => cameBackBy (model c.prog c.w) A F.env E e s')
    (fun n s' => ∃ (i : Nat) (σi : MS) (gi : Gh), (n = ds.length + 1 - i ∧ i ≤ ds.length) ∧ loopM asg mb me (ds.drop i) σi = some (fl, σ') ∧ TurnOk c F (F.W g) i σi g g0 gi s.heap s0.heap wr fp St s') ?_ (ds.length + 1)
    ⟨0, σ0, g0, ⟨rfl, Nat.zero_le _⟩, by simpa using hm, R0, st0, p0, fp0, Go.refl .., fun b o e => ⟨o, e⟩, x0⟩
  rintro n s1 ⟨i, σ1, g1, ⟨hn, hile⟩, hl, T⟩
  obtain ⟨R1, st1, p1, fp1, G1, th1, x1⟩ := id T
  have ex1 := hob i _ st1
  by_cases hlt : i < ds.length
  · have hd : ds.drop i = ds[i] :: ds.drop (i + 1) := List.drop_eq_getElem_cons hlt
    rw [hd] at hl
    refine K.item i _ _ _ hlt st1 fun v h2 tk2 md2 hk2 => ?_
    refine K.go i v _ _ _ md2 fun h3 hP st3 hk3 => ?_
    dsimp only at hk3
    have hk : ∀ b o, b ∉ wr → s1.heap.get? b = some o → h3.get? b = some o := fun b o q e => hk3 b o q (hk2 b o q e)
    have ex3 := hob (i + 1) _ st3
    have R3 : Rel c F σ1 g1 { s1 with heap := h3, toks := tk2 } := R1.priv p1 hk ex3
    have th3 : ∀ b o, s1.heap.get? b = some o → ∃ o', h3.get? b = some o' := fun b o e => by
      by_cases hbw : b ∈ wr
      · exact ex3 b hbw
      · exact ⟨o, hk b o hbw e⟩
    have Gs : Go g1 g1 s1.heap h3 := ⟨fun b o q _ e => hk b o (fun z => q (p1 b z).1) e, fun _ _ _ q => q, fun _ _ q => q, fun _ _ q => q⟩
    have G3 : Go g0 g1 s0.heap h3 := G1.trans Gs th1
    have x3 : Ext c (F.W g) g g1 s.heap h3 := x1.skip wn hk
    have it3 := items i v h3 g1 ds[i] hP G3 (List.getElem?_eq_getElem hlt)
    unfold loopM at hl
    cases ea : asg ds[i] σ1 with
    | none => rw [ea] at hl; cases hl
    | some σ4 =>
      rw [ea] at hl
      dsimp only at hl
      refine ha A _ σ1 σ4 g1 v ds[i] room R3 it3 ea _ _ fun s4 R4 x4 => ?_
      cases eb : mb σ4 with
      | none => rw [eb] at hl; cases hl
      | some r =>
        obtain ⟨f5, σ5⟩ := r
        rw [eb] at hl
        refine hb A s4 σ4 g1 f5 σ5 room R4 eb _ _ fun fl5 s5 g5 R5 d5 x5 => ?_
        have x45 := x4.trans x5
        have x5' := x3.trans x45
        cases f5 with
        | next =>
          cases fl5 with
          | next =>
            dsimp only at hl
            exact ⟨ds.length + 1 - (i + 1), by omega, i + 1, σ5, g5, ⟨rfl, hlt⟩, hl, T.step (fun h' f => K.frame _ _ _ st3 f) ex3 hk R3 R5 x45 x5'⟩
          | _ => exact d5.elim
        | brk =>
          cases fl5 with
          | brk =>
            cases hl
            exact hQ _ s5 g5 R5 trivial x5'
          | _ => exact d5.elim
        | ret d =>
          cases fl5 with
          | ret v' =>
            cases hl
            exact hQ _ s5 g5 R5 d5 x5'
          | _ => exact d5.elim
  · have hin : i = ds.length := by omega
    subst hin
    have hd : ds.drop ds.length = [] := List.drop_length ..
    rw [hd] at hl
    refine K.done _ _ _ st1 fun h2 tk2 hk2 => ?_
    have R2 := R1.over (tk := tk2) p1 hk2
    have nw : ∀ b o, s.heap.get? b = some o → b ∉ wr := fun b o e q => by have := wn b q; rw [e] at this; cases this
    have x2 : Ext c (F.W g) g { g1 with mu := fun b => g1.mu b ∧ b ∉ wr } s.heap h2 := by
      have y := x1.skip wn hk2
      exact ⟨y.keep, y.there, fun b o e q => y.mu1 b o e q.1, fun b o e q => ⟨y.mu2 b o e q, nw b o e⟩, y.rho, y.bet⟩
    exact he A _ σ1 _ fl σ' room R2 hl _ _ fun f s3 g3 R3 d3 x3 => hQ f s3 g3 R3 d3 (x2.trans x3)
end Mine
end
section
open PySem PySem.W PyProof.Rows PySem.SeqAt PySem.Spec
set_option autoImplicit false
namespace Mine
variable {c : Cx} {F : Frm}
noncomputable def GlobIs (c : Cx) (F : Frm) (x : Str) (v : Value) : Prop := F.env.kindOf x = some .globalImplicit ∧ (c.mg x = some v ∨ (c.mg x = none ∧ c.mb x = some v))
section
variable {σ : MS} {g : Gh} {s : Shared} {al : List Acc}
theorem Wd.gns (R : Wd c al g s) : s.heap.Ns mainGlobals c.mg := let ⟨o, es, ep, ho, r⟩ := c.gns; ⟨o, es, ep, R.base _ _ c.gt.1 ho, r⟩
theorem Wd.bns (R : Wd c al g s) : s.heap.Ns builtinsNs c.mb := let ⟨o, es, ep, ho, r⟩ := c.bns; ⟨o, es, ep, R.base _ _ c.gt.2.1 ho, r⟩
theorem Wd.nol (R : Wd c al g s) : s.heap.NoLimit := let ⟨mc, ⟨o, es, ep, ho, r⟩, q⟩ := c.nol; ⟨mc, ⟨o, es, ep, R.base _ _ c.gt.2.2 ho, r⟩, q⟩
theorem wp_glob {A : Around} {E : Value → Shared → Prop} {Q : Value → Shared → Prop} {x : Str} {v : Value} {pos : Pos} (R : Rel c F σ g s) (hx : GlobIs c F x v) (h : Q v s) (hd : (x == ("__debug__" : Str)) = false := by decide +kernel) :
    wpAny (model c.prog c.w) A (eval (.Name x pos) F.env) Q E s := by
  obtain ⟨hk, hg | ⟨hg, hb⟩⟩ := hx
  · exact Calls.Name_function_global R.fo.kind hk (Calls.loadGlobal_global (by rw [R.fo.glob]; exact R.wd.gns) hg h) hd
  · exact Calls.Name_function_global R.fo.kind hk (Calls.loadGlobal_builtin (by rw [R.fo.glob]; exact R.wd.gns) hg (by rw [R.fo.bi]; exact R.wd.bns) hb h) hd
end
noncomputable abbrev g00 : Gh := ⟨[], [], fun _ => False⟩
theorem Den.base {al : List Acc} {g : Gh} {s : Shared} (R : Wd c al g s) {v : Value} {d : D} (dn : Den g00 c.h0 v d) : Den g s.heap v d := by
  refine dn.go ⟨fun b o _ hc e => R.base b o (fun ht => hc (c.tabn b ht o e)) e, fun b o e q => ?_, fun i a e => by simp at e, fun i a e => by simp at e⟩
  exact absurd (Heap.lt_size e) (Nat.not_lt.mpr (R.mub b q).1)
theorem IE_glob {x : Str} {v : Value} {d : D} {pos : Pos} (hx : GlobIs c F x v) (dn : Den g00 c.h0 v d) (hd : (x == ("__debug__" : Str)) = false := by decide +kernel) : IE c F (.Name x pos) (rt d) := by
  intro A s σ g d' σ' room R hm Q E hQ
  cases hm
  exact wp_glob R hx (hQ _ s g R (dn.base R.wd) (Ext.refl ..)) hd
theorem Wd.size {al : List Acc} {g : Gh} {s : Shared} (R : Wd c al g s) : c.h0.objs.size ≤ s.heap.objs.size := by
  obtain ⟨o, e⟩ := c.last
  obtain ⟨o', e'⟩ := R.old.there _ _ e
  have q : c.h0.objs.size - 1 < s.heap.objs.size := Heap.lt_size e'
  exact Nat.le_of_pred_lt q
theorem none_of_size {h : Heap} {b : Addr} (hb : h.objs.size ≤ b) : h.get? b = none := by
  cases e : h.get? b with
  | none => rfl
  | some o => exact absurd (Heap.lt_size e) (Nat.not_lt.mpr hb)
noncomputable abbrev Gh.plus (g : Gh) (wr : List Addr) : Gh := { g with mu := fun b => g.mu b ∨ b ∈ wr }
theorem Rel.fresh {σ : MS} {g : Gh} {s : Shared} (R : Rel c F σ g s) {h' : Heap} {tk : Nat} {wr : List Addr} (hk : ∀ b o, s.heap.get? b = some o → h'.get? b = some o) (hf : ∀ b ∈ wr, s.heap.objs.size ≤ b) (hex : ∀ b ∈ wr, ∃ o, h'.get? b = some o) :
    Rel c F σ (g.plus wr) { s with heap := h', toks := tk } ∧ Priv F (g.plus wr) wr ∧ Ext c (F.W g) g (g.plus wr) s.heap h' ∧ Go g (g.plus wr) s.heap h' := by
  have nw : ∀ b o, s.heap.get? b = some o → b ∉ wr := fun b o e q => by have := none_of_size (hf b q); rw [e] at this; cases this
  refine ⟨R.step (mu' := fun b => g.mu b ∨ b ∈ wr) (tk := tk) (fun _ => False) (fun _ q => q.elim) (fun b o _ e => hk b o e) (fun b o e q => q.resolve_right (nw b o e)) (fun _ q _ => .inl q) fun b q => ?_, fun b hb => ⟨.inr hb, fun hm => ?_, fun y e => ?_⟩, ?_, ?_⟩
  · rcases q with q | q
    · obtain ⟨h1, o, h2⟩ := R.wd.mub b q
      exact ⟨h1, o, hk b o h2⟩
    · exact ⟨Nat.le_trans R.wd.size (hf b q), hex b q⟩
  · obtain ⟨_, o, e⟩ := R.wd.mub b (R.W b hm)
    exact nw b o e hb
  · obtain ⟨_, v, o, e', _⟩ := R.cellx y b e
    exact nw b o e' hb
  · exact ⟨fun b o _ _ e => hk b o e, fun b o e => ⟨o, hk b o e⟩, fun b o e q => q.resolve_right (nw b o e), fun _ _ _ q => .inl q, ⟨[], by simp, by simp⟩, ⟨[], by simp, by simp⟩⟩
  · exact ⟨fun b o _ _ e => hk b o e, fun b o e q => q.resolve_right (nw b o e), fun _ _ e => e, fun _ _ e => e⟩
noncomputable def seqD : D → Option (List D)
  | .lst l => some l
  | .tup l => some l
  | .str x => some (x.cps.toList.map fun ch => .str ⟨#[ch]⟩)
  | _ => none
theorem go_listIter {A : Around} {tgt : Expr} {I l : Addr} {i : Nat} {v : Value} {s : Shared} {Q : Unit → Shared → Prop} {E : Value → Shared → Prop} (hit : s.heap.IsListIter I l i) (h : Q () s) : wpAny (model c.prog c.w) A (letOwnedTupleGo tgt (.ref I) v) Q E s := by
  obtain ⟨o, ho, hc, hd⟩ := hit
  unfold letOwnedTupleGo
  split
  all_goals first
    | exact wpAny_pure h
    | (cases v <;> first | exact wpAny_pure h | (refine wpAny_bind (wpAny_load ho ?_); rw [hc, hd]; exact wpAny_pure h))
theorem go_tupleIter {A : Around} {tgt : Expr} {I l : Addr} {i : Nat} {v : Value} {s : Shared} {Q : Unit → Shared → Prop} {E : Value → Shared → Prop} (hit : s.heap.IsTupleIter I l i) (h : Q () s) : wpAny (model c.prog c.w) A (letOwnedTupleGo tgt (.ref I) v) Q E s := by
  obtain ⟨o, ho, hc, hd⟩ := hit
  unfold letOwnedTupleGo
  split
  all_goals first
    | exact wpAny_pure h
    | (cases v <;> first | exact wpAny_pure h | (refine wpAny_bind (wpAny_load ho ?_); rw [hc, hd]; exact wpAny_pure h))
theorem strIterType_ne (x : Str) : ["enumerate", "zip", "dict_itemiterator", "dict_reverseitemiterator", "odict_iterator", "itertools.zip_longest", "itertools.pairwise"].contains (strIterType x) = false := by
  unfold strIterType
  split <;> decide
theorem go_strIter {A : Around} {tgt : Expr} {I : Addr} {x : Str} {tk : Tok} {i : Nat} {v : Value} {s : Shared} {Q : Unit → Shared → Prop} {E : Value → Shared → Prop} (hit : s.heap.IsStrIter I (strIterType x) x tk i) (h : Q () s) : wpAny (model c.prog c.w) A (letOwnedTupleGo tgt (.ref I) v) Q E s := by
  obtain ⟨o, ho, hc, hd⟩ := hit
  have hz := strIterType_ne x
  unfold letOwnedTupleGo
  split
  all_goals first
    | exact wpAny_pure h
    | (cases v <;> first | exact wpAny_pure h | (refine wpAny_bind (wpAny_load ho ?_); rw [hc, hd]; dsimp only; rw [hz]; exact wpAny_pure h))
theorem strWalks {A : Around} (hh : A.handled = none) (I : Addr) (x : Str) (t : Tok) : Walks c.prog c.w A I [I] [I] x.cps.size (SignAt x) (fun i h => h.IsStrIter I (strIterType x) x t i) := by
  unfold strIterType
  split
  · exact Walks.strAscii hh I x t
  · exact Walks.strWide hh I x t
theorem item_of {t : Bool} {g : Gh} {h : Heap} {v : Value} {d : D} (dn : Den g h v d) (ht : t = true → (unD [] d).isSome = true) : ItemIs t g h v d := by
  cases t with
  | false => exact dn
  | true =>
    obtain ⟨l, e⟩ := Option.isSome_iff_exists.mp (ht rfl)
    exact ⟨l, e, dn.un e⟩
noncomputable def allUn (t : Bool) (l : List D) : Bool := !t || l.all fun d => (unD [] d).isSome
theorem allUn_at {t : Bool} {l : List D} (h : allUn t l = true) {i : Nat} {d : D} (e : l[i]? = some d) : t = true → (unD [] d).isSome = true := by
  intro ht
  subst ht
  unfold allUn at h
  simp only [Bool.not_true, Bool.false_or, List.all_eq_true] at h
  exact h d (List.mem_of_getElem? e)
noncomputable def itM (t : Bool) (d : D) : Option (List D) := match seqD d with
  | some l => if allUn t l then some l else none
  | none => none
set_option maxHeartbeats 1000000 in
theorem IIt_val {tgt e : Expr} {t : Bool} {f : Mx D} (he : IE c F e f) : IIt c F tgt t e (bd f fun d => lf (itM t d)) := by
  intro A s σ g ds σ' room R hm Q E hQ
  obtain ⟨d, σ1, q1, hm⟩ := bd_some hm
  obtain ⟨h3, h4⟩ := lf_some hm
  dsimp only at h3 h4
  subst h4
  refine he A s σ g d σ1 room R q1 _ _ fun v s1 g1 R1 d1 x1 => ?_
  unfold itM at h3
  cases el : seqD d with
  | none => rw [el] at h3; cases h3
  | some l =>
    rw [el] at h3
    dsimp only at h3
    split at h3
    · rename_i hall
      cases h3
      have fresh : ∀ b ∈ [s1.heap.objs.size], s1.heap.objs.size ≤ b := fun b hb => by simp at hb; omega
      have hn : ∀ b ∈ [s1.heap.objs.size], s.heap.get? b = none := fun b hb => none_back x1.there (none_of_size (fresh b hb))
      cases d1 with
      | lst h1 m1 r1 =>
        rename_i a vs n ds'
        cases el
        have hl : s1.heap.IsList a vs.toArray := ⟨_, h1, rfl, n, rfl⟩
        refine wpAny_pyIter_list hl ?_
        obtain ⟨R2, p2, x2, G2⟩ := R1.fresh (tk := s1.toks) (wr := [s1.heap.objs.size]) (fun b o e => Heap.get?_push_of_some { cls := .type "list_iterator", data := .fields #[.ref a, .int 0 0] } e) fresh (fun b hb => by simp at hb; subst hb; exact ⟨_, Heap.get?_push_size _ rfl⟩)
        refine hQ _ _ _ R2 (fun A' hA => ?_) (x1.trans x2)
        have hne : a ≠ s1.heap.objs.size := Nat.ne_of_lt (Heap.lt_size h1)
        have hz : vs.toArray.size = ds.length := by simp [r1.length]
        have WK := Walks.list (prog := c.prog) (w := c.w) hA s1.heap.objs.size a hne vs.toArray
        have K := KTurns.ofWalks (target := tgt) WK (fun i v s Q E st q => go_listIter st.1 q)
        rw [hz] at K
        refine ⟨_, _, _, _, _, K, ⟨⟨_, Heap.get?_push_size _ rfl, rfl, rfl⟩, hl.push _⟩, p2, hn, fun i h' st b hb => ?_, fun i s' Q' E' st q => WK.self i s' Q' E' st q, fun b hb => ?_, fun i v h' g' d hP G ed => ?_⟩
        · simp at hb; subst hb; obtain ⟨o, ho, _⟩ := st.1; exact ⟨o, ho⟩
        · rcases List.mem_cons.mp hb with rfl | hb
          · exact .inl (by simp)
          · simp at hb; subst hb
            exact .inr ⟨fun q => by rcases q with q | q; exact m1 q; simp at q; exact hne q, _, Heap.get?_push_of_some _ h1, by simp⟩
        · obtain ⟨v', ev, dn⟩ := r1.get ed
          have : v = v' := by
            have hP : vs.toArray[i]? = some v := hP
            simp at hP
            rw [ev] at hP; cases hP; rfl
          subst this
          exact item_of ((dn.go G2).go G) (allUn_at hall ed)
      | tup h1 m1 r1 =>
        rename_i a vs n ds'
        cases el
        have hl : s1.heap.IsTuple a vs.toArray := ⟨_, h1, rfl, n, rfl⟩
        refine wpAny_pyIter_tuple hl ?_
        obtain ⟨R2, p2, x2, G2⟩ := R1.fresh (tk := s1.toks) (wr := [s1.heap.objs.size]) (fun b o e => Heap.get?_push_of_some { cls := .type "tuple_iterator", data := .fields #[.ref a, .int 0 0] } e) fresh (fun b hb => by simp at hb; subst hb; exact ⟨_, Heap.get?_push_size _ rfl⟩)
        refine hQ _ _ _ R2 (fun A' hA => ?_) (x1.trans x2)
        have hne : a ≠ s1.heap.objs.size := Nat.ne_of_lt (Heap.lt_size h1)
        have hz : vs.toArray.size = ds.length := by simp [r1.length]
        have WK := Walks.tuple (prog := c.prog) (w := c.w) hA s1.heap.objs.size a hne vs.toArray
        have K := KTurns.ofWalks (target := tgt) WK (fun i v s Q E st q => go_tupleIter st.1 q)
        rw [hz] at K
        refine ⟨_, _, _, _, _, K, ⟨⟨_, Heap.get?_push_size _ rfl, rfl, rfl⟩, hl.push _⟩, p2, hn, fun i h' st b hb => ?_, fun i s' Q' E' st q => WK.self i s' Q' E' st q, fun b hb => ?_, fun i v h' g' d hP G ed => ?_⟩
        · simp at hb; subst hb; obtain ⟨o, ho, _⟩ := st.1; exact ⟨o, ho⟩
        · rcases List.mem_cons.mp hb with rfl | hb
          · exact .inl (by simp)
          · simp at hb; subst hb
            exact .inr ⟨fun q => by rcases q with q | q; exact m1 q; simp at q; exact hne q, _, Heap.get?_push_of_some _ h1, by simp⟩
        · obtain ⟨v', ev, dn⟩ := r1.get ed
          have : v = v' := by
            have hP : vs.toArray[i]? = some v := hP
            simp at hP
            rw [ev] at hP; cases hP; rfl
          subst this
          exact item_of ((dn.go G2).go G) (allUn_at hall ed)
      | str x tk0 =>
        cases el
        refine wpAny_pyIter_strU ?_
        obtain ⟨R2, p2, x2, G2⟩ := R1.fresh (tk := s1.toks) (wr := [s1.heap.objs.size]) (fun b o e => Heap.get?_push_of_some { cls := .type (strIterType x), data := .fields #[.str x tk0, .int 0 0] } e) fresh (fun b hb => by simp at hb; subst hb; exact ⟨_, Heap.get?_push_size _ rfl⟩)
        refine hQ _ _ _ R2 (fun A' hA => ?_) (x1.trans x2)
        have WK := strWalks (c := c) hA s1.heap.objs.size x tk0
        have K := KTurns.ofWalks (target := tgt) WK (fun i v s Q E st q => go_strIter st q)
        have hz : x.cps.size = (x.cps.toList.map fun ch => D.str ⟨#[ch]⟩).length := by simp
        rw [hz] at K
        refine ⟨_, _, _, _, _, K, ⟨_, Heap.get?_push_size _ rfl, rfl, rfl⟩, p2, hn, fun i h' st b hb => ?_, fun i s' Q' E' st q => WK.self i s' Q' E' st q, fun b hb => ?_, fun i v h' g' d hP G ed => ?_⟩
        · simp at hb; subst hb; obtain ⟨o, ho, _⟩ := st; exact ⟨o, ho⟩
        · exact .inl hb
        · obtain ⟨ch, u, e1, rfl⟩ := hP
          have : d = .str ⟨#[ch]⟩ := by
            rw [List.getElem?_map, Array.getElem?_toList, e1] at ed
            cases ed; rfl
          subst this
          exact item_of (.str _ _) (allUn_at hall ed)
      | none => cases el
      | bool => cases el
      | int => cases el
      | acc => cases el
      | box => cases el
      | adr => cases el
    · cases h3
end Mine
end
section
open PySem PySem.W PyProof.Rows PySem.SeqAt PySem.Spec
set_option autoImplicit false
namespace Mine
variable {c : Cx} {F : Frm}
theorem wp_callType {T : String} {x : Str} {p pos : Pos} {e : Expr} {es : List Expr} {A : Around} {s : Shared} {σ σ' : MS} {g : Gh} {ds : List D} {m : Mx (List D)} {Q : Value → Shared → Prop} {E : Value → Shared → Prop}
    (room : Room A F.k) (R : Rel c F σ g s) (hx : GlobIs c F x (.type T)) (hl : IL c F (e :: es) m) (hm : m σ = some (ds, σ'))
    (hQ : ∀ vs s' g', Rel c F σ' g' s' → DenAll g' s'.heap vs ds → Ext c (F.W g) g g' s.heap s'.heap → wpAny (model c.prog c.w) A (call (.type T) vs) Q E s')
    (he : starEach (e :: es) F.env = (false, eval e F.env) :: starEach es F.env := by rfl) (hp : (backTo pos (starEach es F.env)).any (·.1) = false := by rfl) (hd : (x == ("__debug__" : Str)) = false := by decide +kernel) :
    wpAny (model c.prog c.w) A (eval (.Call (.Name x p) (e :: es) [] pos) F.env) Q E s :=
  wpAny_Call_NameR (wp_glob R hx (PyProof.Rows.callWith_type1 (hl A s σ g ds σ' room R hm pos _ _ hQ) he hp) hd)
noncomputable def rangeL (a b k : Int) : Option (List D) := if Builtin.Range.small a b k = true ∧ k ≠ 0 ∧ k.natAbs < 1073741824 ∧ 0 ≤ Builtin.Range.rangeSize a b k then some ((List.range (Builtin.Range.rangeSize a b k).toNat).map fun (i : Nat) => .int (a + (i : Int) * k)) else none
theorem wp_rangeIter {tgt : Expr} {A : Around} {s₀ s : Shared} {σ : MS} {g₀ g : Gh} {r : Addr} {a b k : Int} {t u v : Tok} {ds : List D} {Q : Value → Shared → Prop} {E : Value → Shared → Prop}
    (R : Rel c F σ g s) (x0 : Ext c (F.W g₀) g₀ g s₀.heap s.heap) (hr : IsRange s.heap r a b k t u v) (hl : rangeL a b k = some ds) (hs : ∀ I v, letOwnedTupleGo tgt I v = pure ())
    (hQ : ∀ I s' g', Rel c F σ g' s' → (∀ A' : Around, A'.handled = none → Itr c F A' tgt false g' s₀.heap s'.heap I ds) → Ext c (F.W g₀) g₀ g' s₀.heap s'.heap → Q (.ref I) s') :
    wpAny (model c.prog c.w) A (pyIter (.ref r)) Q E s := by
  unfold rangeL at hl
  split at hl
  · rename_i hz
    obtain ⟨h1, h2, _, h4⟩ := hz
    cases hl
    refine wpAny_pyIter_range hr h1 ?_
    have fresh : ∀ b ∈ [s.heap.objs.size], s.heap.objs.size ≤ b := fun b hb => by simp at hb; omega
    have hn : ∀ b ∈ [s.heap.objs.size], s₀.heap.get? b = none := fun b hb => none_back x0.there (none_of_size (fresh b hb))
    obtain ⟨R2, p2, x2, G2⟩ := R.fresh (tk := s.toks) (wr := [s.heap.objs.size]) (fun b' o e => Heap.get?_push_of_some { cls := .type "range_iterator", data := .fields #[rawInt a, rawInt (Builtin.Range.rangeSize a b k), rawInt k] } e) fresh (fun b hb => by simp at hb; subst hb; exact ⟨_, Heap.get?_push_size _ rfl⟩)
    refine hQ _ _ _ R2 (fun A' hA => ?_) (x0.trans x2)
    have WK := Walks.range (prog := c.prog) (w := c.w) hA s.heap.objs.size a k (Builtin.Range.rangeSize a b k).toNat
    have K := KTurns.ofWalks (target := tgt) WK (fun i v s Q E st q => by rw [hs]; exact wpAny_pure q)
    have hz : ((List.range (Builtin.Range.rangeSize a b k).toNat).map fun (i : Nat) => D.int (a + (i : Int) * k)).length = (Builtin.Range.rangeSize a b k).toNat := by simp
    refine ⟨_, _, _, _, _, (by rw [hz]; exact K), ?_, p2, hn, fun i h' st b hb => ?_, fun i s' Q' E' st q => WK.self i s' Q' E' st q, fun b hb => ?_, fun i v h' g' d hP G ed => ?_⟩
    · show IsRangeIter _ _ _ _ _
      have e1 : a + ((0 : Nat) : Int) * k = a := by simp
      have e2 : (((Builtin.Range.rangeSize a b k).toNat : Nat) : Int) - ((0 : Nat) : Int) = Builtin.Range.rangeSize a b k := by omega
      rw [e1, e2]
      exact Heap.get?_push_size _ rfl
    · simp at hb; subst hb; exact ⟨_, st⟩
    · exact .inl hb
    · obtain ⟨t', rfl⟩ := hP
      rw [List.getElem?_map] at ed
      obtain ⟨j, ej, rfl⟩ := Option.map_eq_some_iff.mp ed
      obtain ⟨hlt, e⟩ := List.getElem?_eq_some_iff.mp ej
      rw [List.getElem_range] at e
      subst e
      exact Den.int _ _
  · cases hl
noncomputable def range1 : List D → Option (List D)
  | [.int n] => rangeL 0 n 1
  | _ => none
theorem IIt_range1 {x : Str} {p pos px : Pos} {y : Str} {e : Expr} {f : Mx (List D)} (hx : GlobIs c F x (.type "range")) (he : IL c F [e] f) (hd : (x == ("__debug__" : Str)) = false := by decide +kernel) (hst : starEach [e] F.env = (false, eval e F.env) :: starEach [] F.env := by rfl) :
    IIt c F (.Name y px) false (.Call (.Name x p) [e] [] pos) (bd f fun l => lf (range1 l)) := by
  intro A s σ g ds σ' room R hm Q E hQ
  obtain ⟨l, σ1, q1, hm⟩ := bd_some hm
  obtain ⟨h3, h4⟩ := lf_some hm
  dsimp only at h3 h4
  subst h4
  refine wp_callType room R hx he q1 (fun vs s1 g1 R1 d1 x1 => ?_) hst rfl hd
  unfold range1 at h3
  split at h3
  · obtain ⟨_, rfl, a⟩ := d1.oneI
    obtain ⟨_, rfl⟩ := a.intI
    refine call_range_1 ?_
    exact wp_rangeIter (s₀ := s) (R1.push (tk := s1.toks + 1 + 1) _) (x1.trans (Ext.push _)) (Heap.get?_push_size _ rfl) h3 (fun _ _ => rfl) hQ
  · cases h3
noncomputable def range3 : List D → Option (List D)
  | [.int a, .int b, .int k] => rangeL a b k
  | _ => none
theorem IIt_range3 {x : Str} {p pos px : Pos} {y : Str} {e1 e2 e3 : Expr} {f : Mx (List D)} (hx : GlobIs c F x (.type "range")) (he : IL c F [e1, e2, e3] f) (hd : (x == ("__debug__" : Str)) = false := by decide +kernel)
    (hst : starEach [e1, e2, e3] F.env = (false, eval e1 F.env) :: starEach [e2, e3] F.env := by rfl) (hp : (backTo pos (starEach [e2, e3] F.env)).any (·.1) = false := by rfl) :
    IIt c F (.Name y px) false (.Call (.Name x p) [e1, e2, e3] [] pos) (bd f fun l => lf (range3 l)) := by
  intro A s σ g ds σ' room R hm Q E hQ
  obtain ⟨l, σ1, q1, hm⟩ := bd_some hm
  obtain ⟨h3, h4⟩ := lf_some hm
  dsimp only at h3 h4
  subst h4
  refine wp_callType room R hx he q1 (fun vs s1 g1 R1 d1 x1 => ?_) hst hp hd
  unfold range3 at h3
  split at h3
  · rename_i a b k
    have hk := h3
    unfold rangeL at hk
    split at hk
    · rename_i hz
      obtain ⟨_, _, rfl, a, r⟩ := d1.consI
      obtain ⟨_, _, rfl, b, r'⟩ := r.twoI
      obtain ⟨_, rfl⟩ := a.intI; obtain ⟨_, rfl⟩ := b.intI; obtain ⟨_, rfl⟩ := r'.intI
      refine call_range_3 hz.2.1 ?_ (.inl (PyProof.noPylong_small hz.2.2.1))
      exact wp_rangeIter (s₀ := s) (R1.push (tk := s1.toks) _) (x1.trans (Ext.push _)) (Heap.get?_push_size _ rfl) h3 (fun _ _ => rfl) hQ
    · cases hk
  · cases h3
noncomputable def enumL : Nat → List D → List D
  | _, [] => []
  | i, d :: l => .tup [.int i, d] :: enumL (i + 1) l
theorem enumL_len : ∀ (l : List D) (i : Nat), (enumL i l).length = l.length
  | [], _ => rfl
  | _ :: l, i => by rw [enumL, List.length_cons, List.length_cons, enumL_len l]
theorem enumL_get : ∀ (l : List D) (i k : Nat) (d : D), (enumL i l)[k]? = some d → ∃ d', l[k]? = some d' ∧ d = .tup [.int (i + k : Nat), d']
  | [], _, _, _, h => by simp [enumL] at h
  | a :: l, i, 0, d, h => by simp [enumL] at h; exact ⟨a, rfl, by simp [← h]⟩
  | a :: l, i, k + 1, d, h => by
    simp [enumL] at h
    obtain ⟨d', h1, h2⟩ := enumL_get l (i + 1) k d h
    refine ⟨d', by simpa using h1, ?_⟩
    rw [h2]
    have : i + 1 + k = i + (k + 1) := by omega
    rw [this]
noncomputable def zipL : List D → List D → List D
  | a :: l, b :: m => .tup [a, b] :: zipL l m
  | _, _ => []
theorem zipL_len : ∀ (l m : List D), (zipL l m).length = min l.length m.length
  | [], _ => by simp [zipL]
  | _ :: _, [] => by simp [zipL]
  | _ :: l, _ :: m => by simp only [zipL, List.length_cons, zipL_len l m]; omega
theorem zipL_get : ∀ (l m : List D) (k : Nat) (d : D), (zipL l m)[k]? = some d → ∃ a b, l[k]? = some a ∧ m[k]? = some b ∧ d = .tup [a, b]
  | [], _, _, _, h => by simp [zipL] at h
  | _ :: _, [], _, _, h => by simp [zipL] at h
  | a :: l, b :: m, 0, d, h => by simp [zipL] at h; exact ⟨a, b, rfl, rfl, h.symm⟩
  | a :: l, b :: m, k + 1, d, h => by
    simp [zipL] at h
    obtain ⟨x, y, h1, h2, h3⟩ := zipL_get l m k d h
    exact ⟨x, y, by simpa using h1, by simpa using h2, h3⟩
theorem zip_apart {n a b : Nat} (h1 : a < n) (h2 : b < n) : ZipApart (n + 4) (n + 2) (n + 3) n (n + 1) a b := by
  constructor <;> (intro (q : (_ : Nat) = _); omega)
noncomputable def zip2 : List D → Option (List D)
  | [.lst l, .lst m] => some (zipL l m)
  | _ => none
set_option maxHeartbeats 1000000 in
theorem IIt_zip {x : Str} {p pos tp : Pos} {es : List Expr} {k : Nat} {e1 e2 : Expr} {f : Mx (List D)} (hx : GlobIs c F x (.type "zip")) (he : IL c F [e1, e2] f) (hd : (x == ("__debug__" : Str)) = false := by decide +kernel)
    (hst : starEach [e1, e2] F.env = (false, eval e1 F.env) :: starEach [e2] F.env := by rfl) (hp : (backTo pos (starEach [e2] F.env)).any (·.1) = false := by rfl) :
    IIt c F (.Tuple es k tp) true (.Call (.Name x p) [e1, e2] [] pos) (bd f fun l => lf (zip2 l)) := by
  intro A s σ g ds σ' room R hm Q E hQ
  obtain ⟨l, σ1, q1, hm⟩ := bd_some hm
  obtain ⟨h3, h4⟩ := lf_some hm
  dsimp only at h3 h4
  subst h4
  refine wp_callType room R hx he q1 (fun vs s1 g1 R1 d1 x1 => ?_) hst hp hd
  unfold zip2 at h3
  split at h3
  · rename_i dl dm
    cases h3
    obtain ⟨_, _, rfl, d1, d2⟩ := d1.twoI
    obtain ⟨a1, vs1, n1, rfl, ha, ma, ra⟩ := d1.lstI
    obtain ⟨a2, vs2, n2, rfl, hb, mb, rb⟩ := d2.lstI
    have l1 : s1.heap.IsList a1 vs1.toArray := ⟨_, ha, rfl, n1, rfl⟩
    have l2 : s1.heap.IsList a2 vs2.toArray := ⟨_, hb, rfl, n2, rfl⟩
    have lt1 := Heap.lt_size ha
    have lt2 := Heap.lt_size hb
    refine call_zip_2 l1 l2 fun h' z1 z2 z3 z4 z5 z6 hk => ?_
    have fresh : ∀ b ∈ [s1.heap.objs.size + 4, s1.heap.objs.size + 3, s1.heap.objs.size, s1.heap.objs.size + 1], s1.heap.objs.size ≤ b := fun b hb => by simp at hb; omega
    have hn : ∀ b ∈ [s1.heap.objs.size + 4, s1.heap.objs.size + 3, s1.heap.objs.size, s1.heap.objs.size + 1], s.heap.get? b = none := fun b hb => none_back x1.there (none_of_size (fresh b hb))
    have ex : ∀ b ∈ [s1.heap.objs.size + 4, s1.heap.objs.size + 3, s1.heap.objs.size, s1.heap.objs.size + 1], ∃ o, h'.get? b = some o := fun b hb => by
      rcases List.mem_cons.mp hb with rfl | hb
      · exact ⟨_, z1⟩
      rcases List.mem_cons.mp hb with rfl | hb
      · exact ⟨_, z3⟩
      rcases List.mem_cons.mp hb with rfl | hb
      · obtain ⟨o, ho, _⟩ := z4; exact ⟨o, ho⟩
      · simp at hb; subst hb; obtain ⟨o, ho, _⟩ := z5; exact ⟨o, ho⟩
    obtain ⟨R2, p2, x2, G2⟩ := R1.fresh (tk := s1.toks) hk fresh ex
    refine wpAny_pyIter_zip z1 ?_
    refine hQ _ _ _ R2 (fun A' hA => ?_) (x1.trans x2)
    have Z : ZipApart (s1.heap.objs.size + 4) (s1.heap.objs.size + 2) (s1.heap.objs.size + 3) s1.heap.objs.size (s1.heap.objs.size + 1) a1 a2 := zip_apart lt1 lt2
    have WK := WalksT.zip2 (prog := c.prog) (w := c.w) hA _ _ _ _ _ a1 a2 Z vs1.toArray vs2.toArray
    have K := KTurns.ofWalksU (elts := es) (k := k) (pos := tp) WK.toU
    have hz : (zipL dl dm).length = min vs1.toArray.size vs2.toArray.size := by rw [zipL_len]; simp [ra.length, rb.length]
    rw [← hz] at K
    refine ⟨_, _, _, _, _, K, ⟨z1, z2, ⟨_, _, z3⟩, z4, z5, ⟨_, hk _ _ ha, rfl, n1, rfl⟩, ⟨_, hk _ _ hb, rfl, n2, rfl⟩⟩, p2, hn, fun i h'' st b hb => ?_, fun i s' Q' E' st q => WK.self i s' Q' E' st q, fun b hb => ?_, fun i v h'' g' d hP G ed => ?_⟩
    · obtain ⟨y1, y2, ⟨_, _, y3⟩, ⟨o4, y4, _⟩, ⟨o5, y5, _⟩, _, _⟩ := st
      rcases List.mem_cons.mp hb with rfl | hb
      · exact ⟨_, y1⟩
      rcases List.mem_cons.mp hb with rfl | hb
      · exact ⟨_, y3⟩
      rcases List.mem_cons.mp hb with rfl | hb
      · exact ⟨_, y4⟩
      · simp at hb; subst hb; exact ⟨_, y5⟩
    · have nn : ∀ b, ¬ g1.mu b → b < s1.heap.objs.size → ¬ (g1.plus [s1.heap.objs.size + 4, s1.heap.objs.size + 3, s1.heap.objs.size, s1.heap.objs.size + 1]).mu b := fun b q hl z => by
        rcases z with z | z
        · exact q z
        · exact Nat.lt_irrefl _ (Nat.lt_of_lt_of_le hl (fresh b z))
      rcases List.mem_cons.mp hb with rfl | hb
      · exact .inl (by simp)
      rcases List.mem_cons.mp hb with rfl | hb
      · refine .inr ⟨fun z => ?_, _, z2, by simp⟩
        rcases z with z | z
        · obtain ⟨_, o, e⟩ := R1.wd.mub _ z
          have q : s1.heap.objs.size + 2 < s1.heap.objs.size := Heap.lt_size e
          omega
        · simp at z
      rcases List.mem_cons.mp hb with rfl | hb
      · exact .inl (by simp)
      rcases List.mem_cons.mp hb with rfl | hb
      · exact .inl (by simp)
      rcases List.mem_cons.mp hb with rfl | hb
      · exact .inl (by simp)
      rcases List.mem_cons.mp hb with rfl | hb
      · exact .inr ⟨nn _ ma lt1, _, hk _ _ ha, by simp⟩
      · simp at hb; subst hb
        exact .inr ⟨nn _ mb lt2, _, hk _ _ ‹s1.heap.get? b = _›, by simp⟩
    · obtain ⟨T, vals, rfl, ⟨x, y, e1, e2, rfl⟩, hT⟩ := hP
      obtain ⟨da, db, f1, f2, rfl⟩ := zipL_get _ _ _ _ ed
      obtain ⟨va, k1, dn1⟩ := ra.get f1
      obtain ⟨vb, k2, dn2⟩ := rb.get f2
      have h1 : va = x := by simp at e1; rw [k1] at e1; cases e1; rfl
      have h2 : vb = y := by simp at e2; rw [k2] at e2; cases e2; rfl
      subst h1 h2
      exact ⟨_, rfl, T, _, rfl, .inl hT, .cons ((dn1.go G2).go G) (.cons ((dn2.go G2).go G) .nil)⟩
  · cases h3
end Mine
end
section
open PySem PySem.W PyProof.Rows PySem.SeqAt PySem.Spec
set_option autoImplicit false
namespace Mine
section
open AutoSeq1 (wpAny_loadPart')
theorem meets_enum_tuple (l : Addr) (items : Array Value) (n : Nat) :
    Meets (Builtin.«enumerate.__new__» ⟨[.type "enumerate", .ref l], []⟩) (fun _ R s => s.heap.get? l = some { cls := .type "tuple", data := .seq items n } ∧
      R (.ok (.ret (.ref (s.heap.push { cls := .type "tuple_iterator", data := .fields #[.ref l, .int 0 0] }).objs.size)))
        { s with heap := (s.heap.push { cls := .type "tuple_iterator", data := .fields #[.ref l, .int 0 0] }).push { cls := .type "enumerate", data := .fields #[.none, .bool false, .ref s.heap.objs.size, rawInt 0, .none, .none] } }) :=
  .of_wp fun prog w A R s h => by
    obtain ⟨hp, g, d, tk, os⟩ := s; obtain ⟨hl, h⟩ := h
    have hsub := sub_enumerate
    have hL : Heap.IsTuple (Shared.heap ⟨hp, g, d, tk, os⟩) l items := ⟨_, hl, rfl, n, rfl⟩
    wp_walk using wpAny_loadPart' hl
    refine wpAny_stack_any fun st => wpAny_pure ?_
    split
    · rename_i c _ _ _ _ _
      cases (c == Value.type "enumerate")
      · wp_walk using wpAny_loadPart' hl, wpAny_pyIter_tuple hL
        exact ⟨_, rfl, h⟩
      · wp_walk using wpAny_loadPart' hl, wpAny_pyIter_tuple hL
        exact ⟨_, rfl, h⟩
    · wp_walk using wpAny_loadPart' hl, wpAny_pyIter_tuple hL
      exact ⟨_, rfl, h⟩
end
section
variable {prog : Program} {w : World} {A : Around} {E : Value → Shared → Prop} {s : Shared}
theorem call_enum_tuple {l : Addr} {items : Array Value} {n : Nat} {Q : Value → Shared → Prop} (hl : s.heap.get? l = some { cls := .type "tuple", data := .seq items n })
    (h : ∀ h', IsEnum h' (s.heap.objs.size + 1) s.heap.objs.size 0 .none → h'.IsTupleIter s.heap.objs.size l 0 → h'.objs.size = s.heap.objs.size + 2 →
      (∀ b o, s.heap.get? b = some o → h'.get? b = some o) → Q (.ref (s.heap.objs.size + 1)) { s with heap := h' }) :
    wpAny (model prog w) A (call (.type "enumerate") [.ref l]) Q E s := by
  refine callType_new F.called_enumerate (by decide) (F.typeCall_enumerate_1 _) (F.newCall_enumerate_1 _) (fun obj => F.args_object_init_2 obj _) F.entry_enumerate_new
    (meets_enum_tuple l items n) ⟨hl, ?_⟩
  have hz : (s.heap.push { cls := .type "tuple_iterator", data := .fields #[.ref l, .int 0 0] }).objs.size = s.heap.objs.size + 1 := Heap.size_push ..
  show _ ∧ _
  rw [hz]
  have he : IsEnum ((s.heap.push { cls := .type "tuple_iterator", data := .fields #[.ref l, .int 0 0] }).push
      { cls := .type "enumerate", data := .fields #[.none, .bool false, .ref s.heap.objs.size, rawInt 0, .none, .none] }) (s.heap.objs.size + 1) s.heap.objs.size 0 .none := by
    have := Heap.get?_push_size (s.heap.push { cls := .type "tuple_iterator", data := .fields #[.ref l, .int 0 0] })
      (o := { cls := .type "enumerate", data := .fields #[.none, .bool false, .ref s.heap.objs.size, rawInt 0, .none, .none] }) rfl
    rw [hz] at this; exact this
  refine ⟨⟨_, he, rfl⟩, h _ he ⟨_, Heap.get?_push_of_some _ (Heap.get?_push_size _ rfl), rfl, rfl⟩ (by rw [Heap.size_push, hz]) fun b o x => Heap.get?_push_of_some _ (Heap.get?_push_of_some _ x)⟩
theorem nextOf_tuple_item {it l : Addr} {i : Nat} {items : Array Value} {x : Value} {Q : Value → Shared → Prop} (hit : s.heap.IsTupleIter it l i)
    (hl : s.heap.IsTuple l items) (hx : items[i]? = some x)
    (hQ : ∀ h', h'.IsTupleIter it l (i + 1) → Heap.SameBut it s.heap h' → Q x { s with heap := h' }) :
    wpAny (model prog w) A (Builtin.SmallTypes.nextOf (.ref it)) Q E s := by
  obtain ⟨o, ho, hc, hd⟩ := id hit
  obtain ⟨ol, hol, _, nl, hdl⟩ := hl
  unfold Builtin.SmallTypes.nextOf
  refine wpAny_bind (wpAny_callSpecial?_slot (name := Str.ofString "__next__") hit.typeIs F.slot_tuple_iterator_next
    (wpAny_call_entry F.slot_tuple_iterator_next hit.typeIs F.entry_tuple_iterator_next ?_ (F.args_tuple_iterator_next_1 _)))
  show wpAny _ _ (field (.ref it) 0 >>= _) _ _ s
  refine wpAny_bind (wpAny_field ho hd (x := .ref l) rfl ?_)
  show wpAny _ _ (if (Value.ref l == Value.none) = true then _ else _) _ _ s
  rw [if_neg (show ¬ ((Value.ref l == Value.none) = true) from Bool.false_ne_true)]
  show wpAny _ _ (field (.ref it) 1 >>= _) _ _ s
  refine wpAny_bind (wpAny_field ho hd (x := .int i 0) rfl ?_)
  show wpAny _ _ (seqItems? (.ref l) >>= _) _ _ s
  refine wpAny_bind (wpAny_seqItems hol hdl ?_)
  simp only [Int.toNat_natCast, hx]
  refine wpAny_bind (wpAny_setField ho hd (by simp) (wpAny_pure ⟨x, rfl, wpAny_pure (hQ _ ?_ (Heap.SameBut.update ..))⟩))
  exact ⟨_, Heap.get?_update_self _ ho (Obj.isFreed_of_fields (Obj.data_mapFields hd _)), (Obj.cls_mapFields ..).trans hc, by
    rw [Obj.data_mapFields hd]; simp [rawInt]⟩
theorem nextOf_tuple_end {it l : Addr} {i : Nat} {items : Array Value} {Q : Value → Shared → Prop} (hh : A.handled = none)
    (hit : s.heap.IsTupleIter it l i) (hl : s.heap.IsTuple l items) (hx : items[i]? = none)
    (hE : ∀ h' e, Heap.ExtBut it s.heap h' → (∃ o, h'.get? e = some o ∧ o.cls = .type "StopIteration") → E (.ref e) { s with heap := h' }) :
    wpAny (model prog w) A (Builtin.SmallTypes.nextOf (.ref it)) Q E s := by
  obtain ⟨o, ho, hc, hd⟩ := id hit
  obtain ⟨ol, hol, _, nl, hdl⟩ := hl
  unfold Builtin.SmallTypes.nextOf
  refine wpAny_bind (wpAny_callSpecial?_slot (name := Str.ofString "__next__") hit.typeIs F.slot_tuple_iterator_next
    (wpAny_call_entry F.slot_tuple_iterator_next hit.typeIs F.entry_tuple_iterator_next ?_ (F.args_tuple_iterator_next_1 _)))
  show wpAny _ _ (field (.ref it) 0 >>= _) _ _ s
  refine wpAny_bind (wpAny_field ho hd (x := .ref l) rfl ?_)
  show wpAny _ _ (if (Value.ref l == Value.none) = true then _ else _) _ _ s
  rw [if_neg (show ¬ ((Value.ref l == Value.none) = true) from Bool.false_ne_true)]
  show wpAny _ _ (field (.ref it) 1 >>= _) _ _ s
  refine wpAny_bind (wpAny_field ho hd (x := .int i 0) rfl ?_)
  show wpAny _ _ (seqItems? (.ref l) >>= _) _ _ s
  refine wpAny_bind (wpAny_seqItems hol hdl ?_)
  simp only [Int.toNat_natCast, hx]
  refine wpAny_bind (wpAny_rule (wpAny_bind (wpAny_setField ho hd (by simp) ?_)))
  show wpAny _ _ (newExc (.type "StopIteration") [] >>= _) _ _ _
  refine wpAny_bind ?_
  simp only [newExc, newTuple]
  refine wpAny_bind (wpAny_newObj_type ?_ (by size_fits))
  refine wpAny_bind (m := firstArgMember _ _) (wpAny_of_eq (a := Value.none) (by first | rfl | (simp only [firstArgMember]; rfl)) ?_)
  refine wpAny_newObj_type ?_ (by size_fits)
  simp only [raiseNew]
  refine wpAny_bind (wpAny_handled ?_)
  first | rw [show A.in1.handled = none from hh] | rw [hh]
  refine wpAny_bind (wpAny_pure (wpAny_throw ?_))
  exact hE _ _ (((Heap.SameBut.update ..).extBut.push _).push _) ⟨_, Heap.get?_push_size _ rfl, rfl⟩
end
theorem drawsTuple {prog : Program} {w : World} {A : Around} (hh : A.handled = none) (it l : Addr) (hne : l ≠ it) (items : Array Value) :
    Draws prog w A it [it, l] items.size (fun i v => items[i]? = some v) (fun i h => h.IsTupleIter it l i ∧ h.IsTuple l items) where
  live := fun _ _ st => let ⟨o, ho, _⟩ := st.1; ⟨o, ho⟩
  frame := fun _ _ _ st hk => ⟨let ⟨o, ho, r⟩ := st.1; ⟨o, hk it (by simp) o ho, r⟩, let ⟨o, ho, r⟩ := st.2; ⟨o, hk l (by simp) o ho, r⟩⟩
  item := fun i s Q E hi st hQ => by
    refine nextOf_tuple_item st.1 st.2 (x := items[i]) (by simp [hi]) fun h' hit' hs' => ?_
    exact hQ _ h' s.toks (by simp [hi]) ⟨hit', st.2.extBut hs'.extBut hne⟩ hs'
  done := fun s Q E st hE => nextOf_tuple_end hh st.1 st.2 (by simp) hE
theorem drawsStr {prog : Program} {w : World} {A : Around} (hh : A.handled = none) (it : Addr) (x : Str) (t : Tok) :
    Draws prog w A it [it] x.cps.size (fun i v => ∃ c u, x.cps[i]? = some c ∧ v = .str ⟨#[c]⟩ u) (fun i h => h.IsStrIter it (strIterType x) x t i) := by
  unfold strIterType
  split
  · exact Draws.strAscii hh it x t
  · exact Draws.strWide hh it x t
variable {c : Cx} {F : Frm}
theorem wp_enumIter {A : Around} {s₀ s : Shared} {σ : MS} {g₀ g : Gh} {h' : Heap} {dl : List D} {es : List Expr} {k : Nat} {tp : Pos} {fp : List Addr} {P : Nat → Value → Prop} {St : Nat → Heap → Prop} {Q : Value → Shared → Prop} {E : Value → Shared → Prop}
    (R : Rel c F σ g s) (x0 : Ext c (F.W g₀) g₀ g s₀.heap s.heap) (hk : ∀ b o, s.heap.get? b = some o → h'.get? b = some o)
    (hD : ∀ A' : Around, A'.handled = none → Draws c.prog c.w A'.in1 s.heap.objs.size (s.heap.objs.size :: fp) dl.length P St)
    (he : IsEnum h' (s.heap.objs.size + 1) s.heap.objs.size 0 .none) (hst : St 0 h') (hfp : ∀ b ∈ fp, ¬ g.mu b ∧ ∃ o, s.heap.get? b = some o ∧ o.cls ≠ .none)
    (hP : ∀ (i : Nat) v d, P i v → dl[i]? = some d → Den g s.heap v d)
    (hQ : ∀ I s' g', Rel c F σ g' s' → (∀ A' : Around, A'.handled = none → Itr c F A' (.Tuple es k tp) true g' s₀.heap s'.heap I (enumL 0 dl)) → Ext c (F.W g₀) g₀ g' s₀.heap s'.heap → Q (.ref I) s') :
    wpAny (model c.prog c.w) A (pyIter (.ref (s.heap.objs.size + 1))) Q E { s with heap := h' } := by
  refine wpAny_pyIter_enum he ?_
  have D0 : ∀ i h, St i h → ∃ o, h.get? s.heap.objs.size = some o := (hD { A with handled := none } rfl).live
  have fresh : ∀ b ∈ [s.heap.objs.size + 1, s.heap.objs.size], s.heap.objs.size ≤ b := fun b hb => by simp at hb; omega
  have hn : ∀ b ∈ [s.heap.objs.size + 1, s.heap.objs.size], s₀.heap.get? b = none := fun b hb => none_back x0.there (none_of_size (fresh b hb))
  have ex : ∀ b ∈ [s.heap.objs.size + 1, s.heap.objs.size], ∃ o, h'.get? b = some o := fun b hb => by
    rcases List.mem_cons.mp hb with rfl | hb
    · exact ⟨_, he⟩
    · simp at hb; subst hb; exact D0 _ _ hst
  obtain ⟨R2, p2, x2, G2⟩ := R.fresh (tk := s.toks) hk fresh ex
  refine hQ _ _ _ R2 (fun A' hA => ?_) (x0.trans x2)
  have ef : s.heap.objs.size + 1 ∉ s.heap.objs.size :: fp := fun q => by
    rcases List.mem_cons.mp q with q | q
    · exact Nat.succ_ne_self _ q
    · obtain ⟨_, o, e, _⟩ := hfp _ q
      have z : s.heap.objs.size + 1 < s.heap.objs.size := Heap.lt_size e
      omega
  have WK := WalksT.enumerateD (hD A' hA) (s.heap.objs.size + 1) (Nat.succ_ne_self _) ef (by simp)
  have K := KTurns.ofWalksU (elts := es) (k := k) (pos := tp) WK.toU
  rw [← enumL_len dl 0] at K
  refine ⟨_, _, _, _, _, K, ⟨⟨_, he⟩, hst⟩, p2, hn, fun i h'' st b hb => ?_, fun i s' Q' E' st q => WK.self i s' Q' E' st q, fun b hb => ?_, fun i v h'' g' d hP' G ed => ?_⟩
  · obtain ⟨⟨old, y1⟩, y2⟩ := st
    rcases List.mem_cons.mp hb with rfl | hb
    · exact ⟨_, y1⟩
    · simp at hb; subst hb; exact D0 _ _ y2
  · rcases List.mem_cons.mp hb with rfl | hb
    · exact .inl (by simp)
    rcases List.mem_cons.mp hb with rfl | hb
    · exact .inl (by simp)
    · obtain ⟨m, o, e, hc⟩ := hfp b hb
      refine .inr ⟨fun z => ?_, o, hk b o e, hc⟩
      rcases z with z | z
      · exact m z
      · exact Nat.lt_irrefl _ (Nat.lt_of_lt_of_le (Heap.lt_size e) (fresh b z))
  · obtain ⟨T, vals, rfl, ⟨t, x, px, rfl⟩, hT⟩ := hP'
    obtain ⟨d', f1, rfl⟩ := enumL_get _ _ _ _ ed
    have z : (0 + i : Nat) = i := Nat.zero_add i
    rw [z]
    exact ⟨_, rfl, T, _, rfl, .inl hT, .cons (.int _ _) (.cons ((hP i x d' px f1).go (Go.trans G2 G (fun b o e => ⟨o, hk b o e⟩))) .nil)⟩
noncomputable def enum1 : List D → Option (List D)
  | [d] => (seqD d).map (enumL 0)
  | _ => none
set_option maxHeartbeats 1000000 in
theorem IIt_enum {x : Str} {p pos tp : Pos} {es : List Expr} {k : Nat} {e : Expr} {f : Mx (List D)} (hx : GlobIs c F x (.type "enumerate")) (he : IL c F [e] f) (hd : (x == ("__debug__" : Str)) = false := by decide +kernel)
    (hst : starEach [e] F.env = (false, eval e F.env) :: starEach [] F.env := by rfl) :
    IIt c F (.Tuple es k tp) true (.Call (.Name x p) [e] [] pos) (bd f fun l => lf (enum1 l)) := by
  intro A s σ g ds σ' room R hm Q E hQ
  obtain ⟨l, σ1, q1, hm⟩ := bd_some hm
  obtain ⟨h3, h4⟩ := lf_some hm
  dsimp only at h3 h4
  subst h4
  refine wp_callType room R hx he q1 (fun vs s1 g1 R1 d1 x1 => ?_) hst rfl hd
  unfold enum1 at h3
  split at h3
  · rename_i d
    obtain ⟨dl, h5, rfl⟩ := Option.map_eq_some_iff.mp h3
    cases d1 with
    | cons a r =>
      cases r
      cases a with
      | @lst a1 vs1 n1 _ ha ma ra =>
        cases h5
        refine call_enumerate_list ⟨_, ha, rfl, n1, rfl⟩ fun h' z1 z2 _ hk => ?_
        have hne : a1 ≠ s1.heap.objs.size := Nat.ne_of_lt (Heap.lt_size ha)
        refine wp_enumIter (s₀ := s) (fp := [a1]) R1 x1 hk (fun A' hA => ?_) z1 (St := fun i h => h.IsListIter s1.heap.objs.size a1 i ∧ h.IsList a1 vs1.toArray) ⟨z2, ⟨_, hk _ _ ha, rfl, n1, rfl⟩⟩ (fun b hb => ?_) (P := fun i v => vs1.toArray[i]? = some v) (fun i v d hP ed => ?_) hQ
        · have := Draws.list (prog := c.prog) (w := c.w) (A := A'.in1) hA s1.heap.objs.size a1 hne vs1.toArray
          rw [show vs1.toArray.size = dl.length by simp [ra.length]] at this
          exact this
        · simp at hb; subst hb; exact ⟨ma, _, ha, by simp⟩
        · obtain ⟨v', ev, dn⟩ := ra.get ed
          simp at hP
          rw [ev] at hP; cases hP; exact dn
      | @tup a1 vs1 n1 _ ha ma ra =>
        cases h5
        refine call_enum_tuple ha fun h' z1 z2 _ hk => ?_
        have hne : a1 ≠ s1.heap.objs.size := Nat.ne_of_lt (Heap.lt_size ha)
        refine wp_enumIter (s₀ := s) (fp := [a1]) R1 x1 hk (fun A' hA => ?_) z1 (St := fun i h => h.IsTupleIter s1.heap.objs.size a1 i ∧ h.IsTuple a1 vs1.toArray) ⟨z2, ⟨_, hk _ _ ha, rfl, n1, rfl⟩⟩ (fun b hb => ?_) (P := fun i v => vs1.toArray[i]? = some v) (fun i v d hP ed => ?_) hQ
        · have := drawsTuple (prog := c.prog) (w := c.w) (A := A'.in1) hA s1.heap.objs.size a1 hne vs1.toArray
          rw [show vs1.toArray.size = dl.length by simp [ra.length]] at this
          exact this
        · simp at hb; subst hb; exact ⟨ma, _, ha, by simp⟩
        · obtain ⟨v', ev, dn⟩ := ra.get ed
          simp at hP
          rw [ev] at hP; cases hP; exact dn
      | str y tk0 =>
        cases h5
        refine call_enumerate_str fun h' z1 z2 _ hk => ?_
        refine wp_enumIter (s₀ := s) (fp := []) R1 x1 hk (fun A' hA => ?_) z1 (St := fun i h => h.IsStrIter s1.heap.objs.size (strIterType y) y tk0 i) z2 (fun b hb => by simp at hb) (P := fun i v => ∃ c u, y.cps[i]? = some c ∧ v = .str ⟨#[c]⟩ u) (fun i v d hP ed => ?_) hQ
        · have := drawsStr (prog := c.prog) (w := c.w) (A := A'.in1) hA s1.heap.objs.size y tk0
          rw [show y.cps.size = (y.cps.toList.map fun ch => D.str ⟨#[ch]⟩).length by simp] at this
          exact this
        · obtain ⟨ch, u, e1, rfl⟩ := hP
          rw [List.getElem?_map, Array.getElem?_toList, e1] at ed
          cases ed
          exact .str _ _
      | _ => cases h5
  · cases h3
end Mine
end
section
open PySem PySem.W PyProof.Rows PySem.SeqAt PySem.Spec
set_option autoImplicit false
namespace Mine
variable {c : Cx} {F : Frm}
mutual
noncomputable def noB : D → Bool
  | .box _ => false
  | .tup l => noBs l
  | .lst l => noBs l
  | _ => true
noncomputable def noBs : List D → Bool
  | [] => true
  | d :: l => noB d && noBs l
end
mutual
noncomputable def frz (b : List (List D)) : D → Option D
  | .box i => match b[i]? with
    | some l => if noBs l then some (.lst l) else none
    | none => none
  | .tup l => (frzs b l).map .tup
  | .lst l => (frzs b l).map .lst
  | d => some d
noncomputable def frzs (b : List (List D)) : List D → Option (List D)
  | [] => some []
  | d :: l => match frz b d, frzs b l with
    | some d', some l' => some (d' :: l')
    | _, _ => none
end
structure Gn (g g' : Gh) (h h' : Heap) : Prop where
  keep : ∀ b o, ¬ g.mu b → o.cls ≠ .none → h.get? b = some o → h'.get? b = some o
  mu : ∀ b o, h.get? b = some o → g'.mu b → g.mu b
  rho : ∀ (i : Nat) (a : Addr), g.rho[i]? = some a → g'.rho[i]? = some a
theorem Den.gn {g g' : Gh} {h h' : Heap} (G : Gn g g' h h') {v : Value} {d : D} (n : noB d = true) (x : Den g h v d) : Den g' h' v d :=
  Den.rec (motive_1 := fun v d _ => noB d = true → Den g' h' v d) (motive_2 := fun vs ds _ => noBs ds = true → DenAll g' h' vs ds) (fun _ => .none) (fun b _ => .bool b) (fun i t _ => .int i t) (fun x t _ => .str x t)
    (fun e m _ r n => .tup (G.keep _ _ m (by simp) e) (fun q => m (G.mu _ _ e q)) (r (by unfold noB at n; exact n))) (fun e m _ r n => .lst (G.keep _ _ m (by simp) e) (fun q => m (G.mu _ _ e q)) (r (by unfold noB at n; exact n)))
    (fun e _ => .acc (G.rho _ _ e)) (fun _ n => by unfold noB at n; cases n) (fun a _ => .adr a) (fun _ => .nil) (fun _ _ a r n => by
      unfold noBs at n
      rw [Bool.and_eq_true] at n
      exact .cons (a n.1) (r n.2)) x n
theorem DenAll.gn {g g' : Gh} {h h' : Heap} (G : Gn g g' h h') {vs : List Value} {ds : List D} (n : noBs ds = true) (x : DenAll g h vs ds) : DenAll g' h' vs ds :=
  DenAll.rec (motive_1 := fun _ _ _ => True) (motive_2 := fun vs ds _ => noBs ds = true → DenAll g' h' vs ds) trivial (fun _ => trivial) (fun _ _ => trivial) (fun _ _ => trivial) (fun _ _ _ _ => trivial) (fun _ _ _ _ => trivial) (fun _ => trivial) (fun _ => trivial) (fun _ => trivial) (fun _ => .nil) (fun a _ _ r n => by
    unfold noBs at n
    rw [Bool.and_eq_true] at n
    exact .cons (a.gn G n.1) (r n.2)) x n
theorem Den.frz {g g' : Gh} {h h' : Heap} (G : Gn g g' h h') (b : List (List D)) (hb : ∀ (i : Nat) a l, g.bet[i]? = some (some a) → b[i]? = some l → noBs l = true → ∃ vs n, h'.get? a = some (lstO vs n) ∧ ¬ g'.mu a ∧ DenAll g' h' vs l)
    {d d' : D} {v : Value} (e : Mine.frz b d = some d') (x : Den g h v d) : Den g' h' v d' :=
  Den.rec (motive_1 := fun v d _ => ∀ d', Mine.frz b d = some d' → Den g' h' v d') (motive_2 := fun vs ds _ => ∀ ds', frzs b ds = some ds' → DenAll g' h' vs ds') (fun _ e => by cases e; exact .none) (fun _ _ e => by cases e; exact .bool _) (fun _ _ _ e => by cases e; exact .int _ _) (fun _ _ _ e => by cases e; exact .str _ _)
    (fun q m _ r _ e => by
      unfold Mine.frz at e
      obtain ⟨l', e1, e2⟩ := Option.map_eq_some_iff.mp e
      subst e2
      exact .tup (G.keep _ _ m (by simp) q) (fun z => m (G.mu _ _ q z)) (r _ e1))
    (fun q m _ r _ e => by
      unfold Mine.frz at e
      obtain ⟨l', e1, e2⟩ := Option.map_eq_some_iff.mp e
      subst e2
      exact .lst (G.keep _ _ m (by simp) q) (fun z => m (G.mu _ _ q z)) (r _ e1))
    (fun q _ e => by cases e; exact .acc (G.rho _ _ q))
    (fun q _ e => by
      unfold Mine.frz at e
      split at e
      · rename_i l hl
        split at e
        · rename_i hn
          cases e
          obtain ⟨vs, n, h1, h2, h3⟩ := hb _ _ l q hl hn
          exact .lst h1 h2 h3
        · cases e
      · cases e)
    (fun _ _ e => by cases e; exact .adr _) (fun _ e => by cases e; exact .nil)
    (fun _ _ p q _ e => by
      unfold frzs at e
      split at e
      · rename_i d' l' e1 e2
        cases e
        exact .cons (p _ e1) (q _ e2)
      · cases e) x _ e
theorem noB_parts (l : List (Str × Str)) : noBs (l.map part) = true := by
  induction l with
  | nil => rfl
  | cons a l ih =>
    show (noB (part a) && noBs (l.map part)) = true
    rw [ih]
    rfl
theorem AccAt.gn {g g' : Gh} {h h' : Heap} {a : Addr} {A : Acc} (x : AccAt c g h a A) (G : Gn g g' h h') (ha : ∀ o, h.get? a = some o → h'.get? a = some o) : AccAt c g' h' a A := by
  obtain ⟨dx, vs, n, k, hs, t, u, h1, h2, h3, h4⟩ := x
  exact ⟨dx, vs, n, k, hs, t, u, ha _ h1, G.keep _ _ h3 (by simp) h2, fun q => h3 (G.mu _ _ h2 q), h4.gn G (noB_parts _)⟩
theorem Wd.rebet {al : List Acc} {g : Gh} {s : Shared} (R : Wd c al g s) {mu' : Addr → Prop} (b : List (Option Addr)) (hm : ∀ b, mu' b → g.mu b) (hr : ∀ a ∈ g.rho, mu' a) : Wd c al ⟨g.rho, b, mu'⟩ s :=
  ⟨R.base, R.old, R.tabc, c.tpk _ _ _ _ R.tp (fun _ _ _ e => e) (fun b _ _ q => hm b q), fun b q => R.mub b (hm b q), R.os, R.gens, R.len, hr, R.rnd,
    fun i a A e1 e2 => (R.accs i a A e1 e2).gn ⟨fun _ _ _ _ e => e, fun b _ _ q => hm b q, fun _ _ e => e⟩ fun _ e => e⟩
theorem Gn.bet {g : Gh} {h : Heap} (b : List (Option Addr)) : Gn g { g with bet := b } h h := ⟨fun _ _ _ _ e => e, fun _ _ _ q => q, fun _ _ e => e⟩
noncomputable def IFn (c : Cx) (fv : Value) (k : Nat) (p : List D → List Acc → Option (D × List Acc)) : Prop :=
  (∃ a o fd, fv = .ref a ∧ a ∉ c.tabs ∧ c.h0.get? a = some o ∧ o.data = .func fd) ∧
  ∀ (A : Around) (s : Shared) (al : List Acc) (g : Gh) (vs : List Value) (ds : List D) (d : D) (al' : List Acc), Room A k → Wd c al g s → g.bet = [] → DenAll g s.heap vs ds → p ds al = some (d, al') →
    ∀ (Q : Value → Shared → Prop) (E : Value → Shared → Prop), (∀ v s' g', Wd c al' g' s' → g'.bet = [] → Den g' s'.heap v d → Ext c g.rho g g' s.heap s'.heap → Q v s') →
      wpAny (model c.prog c.w) A (call fv vs) Q E s
theorem Room.le {A : Around} {k k' : Nat} (r : Room A k) (h : k' ≤ k) : Room A k' := ⟨by have := r.depth; omega, by have := r.units; omega, r.hh, r.fr, r.gd⟩
theorem Room.deeper {A : Around} {k : Nat} (r : Room A (k + 1)) (env : Env) : Room (A.deeper env) k := by
  refine ⟨?_, ?_, r.hh, ?_, r.gd⟩
  · have := r.depth
    show A.depth + 1 + k < _
    omega
  · have := r.units
    show A.units + 3 + 40 * k + 200 < _
    omega
  · obtain ⟨l, e⟩ := r.fr
    refine ⟨env :: l, ?_⟩
    show A.frames.map (env :: ·) = _
    rw [e]; rfl
theorem Rel.back {σ : MS} {g g' : Gh} {s s' : Shared} {al' : List Acc} {b' : List (List D)} (R : Rel c F σ g s) (W : Wd c al' g' s') (G : Go g g' s.heap s'.heap)
    (hk : ∀ b o, (b = F.env.locals ∨ ∃ y, F.env.cells.lookup y = some b) → s.heap.get? b = some o → s'.heap.get? b = some o) (hm : ∀ b ∈ F.ws, g'.mu b) (hmc : ∀ y b o, F.env.cells.lookup y = some b → s.heap.get? b = some o → g.mu b → g'.mu b)
    (blen : g'.bet.length = b'.length) (bmu : ∀ a, some a ∈ g'.bet → g'.mu a) (bnd : ∀ (i j : Nat) a, g'.bet[i]? = some (some a) → g'.bet[j]? = some (some a) → i = j)
    (box : ∀ (i : Nat) a l, g'.bet[i]? = some (some a) → b'[i]? = some l → ∃ vs n, s'.heap.get? a = some (lstO vs n) ∧ DenAll g' s'.heap vs l) : Rel c F ⟨σ.v, al', b'⟩ g' s' := by
  refine ⟨W, R.fo, ?_, fun i x d e1 e2 => ?_, fun x a e => ?_, fun a ha => ?_, blen, bmu, bnd, box⟩
  · obtain ⟨m, hn⟩ := R.loc
    exact ⟨m, hn.at' fun o e => hk _ o (.inl rfl) e⟩
  · obtain ⟨v, V, dn⟩ := R.vars i x d e1 e2
    exact ⟨v, V.at (fun o e => hk _ o (.inl rfl) e) (fun y a q o e => hk a o (.inr ⟨y, q⟩) e), dn.go G⟩
  · obtain ⟨m, v, o, ho, r⟩ := R.cellx x a e
    exact ⟨m.imp (hmc x a o e ho) id, v, o, hk a o (.inr ⟨x, e⟩) ho, r⟩
  · exact hm a ha
noncomputable def callM (p : List D → List Acc → Option (D × List Acc)) (ds : List D) : Mx D := fun σ => if noBs ds then (match p ds σ.a with
  | some (d, al') => some (d, { σ with a := al' })
  | none => none) else none
theorem Rel.notAcc' {σ : MS} {g : Gh} {s : Shared} (R : Rel c F σ g s) : F.env.locals ∉ g.rho ∧ (∀ y a, F.env.cells.lookup y = some a → a ∉ g.rho) ∧ ∀ a, some a ∈ g.bet → a ∉ g.rho := by
  refine ⟨?_, fun y a e => ?_, fun a ha hr => ?_⟩
  · obtain ⟨m, o, es, ep, ho, hd, _⟩ := R.loc
    exact R.notAcc ho fun vs n q => by rw [hd] at q; cases q
  · obtain ⟨_, v, o, ho, hd⟩ := R.cellx y a e
    exact R.notAcc ho fun vs n q => by rw [hd] at q; cases q
  · obtain ⟨i, hi, e⟩ := List.mem_iff_getElem.mp ha
    obtain ⟨vs, n, h1, _⟩ := R.box i a (σ.b[i]'(by rw [← R.blen]; exact hi)) (by rw [← e]; exact List.getElem?_eq_getElem hi) (List.getElem?_eq_getElem _)
    obtain ⟨j, hj, e'⟩ := List.mem_iff_getElem.mp hr
    obtain ⟨_, _, _, _, _, _, _, h2, _⟩ := R.wd.accs j a (σ.a[j]'(by rw [← R.wd.len]; exact hj)) (by rw [← e']; exact List.getElem?_eq_getElem hj) (List.getElem?_eq_getElem _)
    rw [h1] at h2
    cases h2
theorem wp_callFn {A : Around} {s : Shared} {σ σ' : MS} {g : Gh} {fv : Value} {k : Nat} {p : List D → List Acc → Option (D × List Acc)} {vs : List Value} {ds : List D} {d : D} {Q : Value → Shared → Prop} {E : Value → Shared → Prop}
    (hf : IFn c fv k p) (hk : k ≤ F.k) (room : Room A F.k) (R : Rel c F σ g s) (r : DenAll g s.heap vs ds) (hm : callM p ds σ = some (d, σ')) (hQ : Kt c F σ' g s d Q) : wpAny (model c.prog c.w) A (call fv vs) Q E s := by
  unfold callM at hm
  split at hm
  · rename_i hn
    split at hm
    · rename_i d' al' hp
      cases hm
      have W0 := R.wd.rebet (mu' := g.mu) [] (fun _ q => q) R.wd.rmu
      refine hf.2 A s σ.a _ vs ds d al' (room.le hk) W0 rfl (r.gn (Gn.bet []) hn) hp Q E fun v s' g' W' hb dn x => ?_
      obtain ⟨n1, n2, n3⟩ := R.notAcc'
      obtain ⟨lr, hr, hrl⟩ := x.rho
      have tlow : ∀ b, g.mu b → b ∉ c.tabs := fun b m t => Nat.lt_irrefl _ (Nat.lt_of_lt_of_le (R.wd.tlow t) (R.wd.mub b m).1)
      have hkb : ∀ b o, g.mu b → b ∉ g.rho → s.heap.get? b = some o → s'.heap.get? b = some o := fun b o m q e => x.keep b o q (tlow b m) e
      have rl : ∀ (i : Nat) (a : Addr), g.rho[i]? = some a → g'.rho[i]? = some a := fun i a e => by
        rw [hr]
        have := (List.getElem?_eq_some_iff.mp e).1
        rw [List.getElem?_append_left this]; exact e
      have mu1 : ∀ b o, s.heap.get? b = some o → g'.mu b → g.mu b := x.mu1
      have mu2 : ∀ b o, s.heap.get? b = some o → g.mu b → g'.mu b := x.mu2
      have G : Go g { g' with bet := g.bet } s.heap s'.heap := ⟨fun b o m hc e => x.keep b o (fun q => m (R.wd.rmu b q)) (fun t => hc (R.wd.tcls b t o e)) e, mu1, rl, fun _ _ e => e⟩
      have bmu : ∀ a, some a ∈ g.bet → g'.mu a := fun a ha => let ⟨o, e⟩ := R.boxat ha; mu2 a o e (R.bmu a ha)
      have R' : Rel c F ⟨σ.v, al', σ.b⟩ { g' with bet := g.bet } s' := by
        refine R.back (W'.rebet (mu' := g'.mu) g.bet (fun _ q => q) W'.rmu) G (fun b o h e => ?_) (fun b h => ?_) (fun _ b o _ e m => mu2 b o e m) R.blen bmu R.bnd (fun i a l e1 e2 => ?_)
        · rcases h with h | ⟨y, h⟩
          · subst h; exact hkb _ o (R.wmu _ R.fo.wl) n1 e
          · exact x.keep b o (n2 y b h) (R.ctab h) e
        · obtain ⟨_, o, e⟩ := R.wd.mub b (R.wmu b h)
          exact mu2 b o e (R.wmu b h)
        · obtain ⟨vs, n, h1, h2⟩ := R.box i a l e1 e2
          have ha : some a ∈ g.bet := List.mem_of_getElem? e1
          exact ⟨vs, n, hkb a _ (R.bmu a ha) (n3 a ha) h1, h2.go G⟩
      refine hQ v s' _ R' ?_ ?_
      · have G3 : Go g' { g' with bet := g.bet } s'.heap s'.heap := ⟨fun _ _ _ _ e => e, fun _ _ _ q => q, fun _ _ e => e, fun i a e => by rw [hb] at e; simp at e⟩
        exact dn.go G3
      · exact ⟨fun b o hW t e => x.keep b o (fun q => hW (mem_W_rho q)) t e, x.there, mu1, mu2, ⟨lr, hr, hrl⟩, ⟨[], by simp, by simp⟩⟩
    · cases hm
  · cases hm
theorem IE_call {x : Str} {p pos : Pos} {fv : Value} {k : Nat} {e : Expr} {es : List Expr} {q : List D → List Acc → Option (D × List Acc)} {m : Mx (List D)} (hx : GlobIs c F x fv) (hf : IFn c fv k q) (hk : k ≤ F.k) (hl : IL c F (e :: es) m)
    (hd : (x == ("__debug__" : Str)) = false := by decide +kernel) (he : starEach (e :: es) F.env = (false, eval e F.env) :: starEach es F.env := by rfl) :
    IE c F (.Call (.Name x p) (e :: es) [] pos) (bd m fun ds => callM q ds) := by
  intro A s σ g d σ' room R hm Q E hQ
  obtain ⟨ds, σ1, q1, hm⟩ := bd_some hm
  obtain ⟨⟨a, o, fd, rfl, hat, ho, hdt⟩, _⟩ := id hf
  refine wpAny_Call_NameR (wp_glob R hx (Calls.callWith_function (o := o) (fd := fd) ?_) hd)
  have h1 := hl A s σ g ds σ1 room R q1 pos
    (fun vs s' => (s'.heap.get? a = some o ∧ o.data = .func fd) ∧ wpAny (model c.prog c.w) A (call (.ref a) vs) Q E s') E
    (fun vs s1 g1 R1 d1 x1 => ⟨⟨R1.wd.base a o hat ho, hdt⟩, wp_callFn hf hk room R1 d1 hm (fun v s2 g2 R2 d2 x2 => hQ v s2 g2 R2 d2 (x1.trans x2))⟩)
  rw [he] at h1 ⊢
  exact Calls.evalArgs_plain h1
end Mine
end
section
open PySem PySem.W PyProof.Rows PySem.SeqAt PySem.Spec
set_option autoImplicit false
namespace Mine
variable {c : Cx}
noncomputable abbrev fnF (name : Str) (scope : Scope) (a : Addr) (cd : Value) (names : List Str) (k : Nat) (L : Addr) : Frm :=
  { env := envOfC name scope L a cd, names := names, ws := L :: (cellsFrom (L + 1) scope.names []).map (·.2), k := k }
noncomputable def fnP (n N : Nat) (m : Mx Fl) : List D → List Acc → Option (D × List Acc) := fun ds al =>
  if ds.length = n then match m ⟨ds.map some ++ List.replicate (N - n) none, al, []⟩ with
    | some (.ret d, σ) => (frz σ.b d).map fun d' => (d', σ.a)
    | some (.next, σ) => some (.none, σ.a)
    | _ => none
  else none
theorem bindL_none (kd : Str → Option NameKind) : ∀ (l : List (Str × Value)) (m : Str → Option Value) (x : Str), (∀ p ∈ l, p.1 ≠ x) → bindL kd l m x = m x
  | [], _, _, _ => rfl
  | (n, v) :: r, m, x, h => by
    unfold bindL
    rw [bindL_none kd r _ x (fun p hp => h p (List.mem_cons_of_mem _ hp))]
    have : x ≠ n := fun q => h (n, v) (List.mem_cons_self ..) q.symm
    split
    · simp [this]
    · rfl
theorem bindC_none (kd : Str → Option NameKind) : ∀ (l : List (Str × Value)) (m : Str → Option Value) (x : Str), (∀ p ∈ l, p.1 ≠ x) → bindC kd l m x = m x
  | [], _, _, _ => rfl
  | (n, v) :: r, m, x, h => by
    unfold bindC
    rw [bindC_none kd r _ x (fun p hp => h p (List.mem_cons_of_mem _ hp))]
    have : x ≠ n := fun q => h (n, v) (List.mem_cons_self ..) q.symm
    split
    · rfl
    · simp [this]
theorem zip_fst {ps : List Str} {vs : List Value} {p : Str × Value} (h : p ∈ ps.zip vs) : p.1 ∈ ps := (List.of_mem_zip h).1
theorem bindL_at (kd : Str → Option NameKind) : ∀ (ps : List Str) (vs : List Value) (m : Str → Option Value) (i : Nat) (x : Str) (v : Value), ps.Nodup → ps[i]? = some x → vs[i]? = some v → kd x = some .local → bindL kd (ps.zip vs) m x = some v
  | [], _, _, _, _, _, _, h, _, _ => by simp at h
  | _ :: _, [], _, _, _, _, _, _, h, _ => by simp at h
  | p :: ps, u :: vs, m, 0, x, v, hn, h1, h2, hk => by
    simp at h1 h2; subst h1 h2
    rw [List.nodup_cons] at hn
    show bindL kd (ps.zip vs) _ p = _
    rw [bindL_none kd _ _ p (fun q hq z => hn.1 (by rw [← z]; exact zip_fst hq)), if_pos hk]
    simp
  | p :: ps, u :: vs, m, i + 1, x, v, hn, h1, h2, hk => by
    simp at h1 h2
    rw [List.nodup_cons] at hn
    exact bindL_at kd ps vs _ i x v hn.2 h1 h2 hk
theorem bindC_at (kd : Str → Option NameKind) : ∀ (ps : List Str) (vs : List Value) (m : Str → Option Value) (i : Nat) (x : Str) (v : Value), ps.Nodup → ps[i]? = some x → vs[i]? = some v → kd x = some .cell → bindC kd (ps.zip vs) m x = some v
  | [], _, _, _, _, _, _, h, _, _ => by simp at h
  | _ :: _, [], _, _, _, _, _, _, h, _ => by simp at h
  | p :: ps, u :: vs, m, 0, x, v, hn, h1, h2, hk => by
    simp at h1 h2; subst h1 h2
    rw [List.nodup_cons] at hn
    show bindC kd (ps.zip vs) _ p = _
    rw [bindC_none kd _ _ p (fun q hq z => hn.1 (by rw [← z]; exact zip_fst hq)), if_neg (by rw [hk]; simp)]
    simp
  | p :: ps, u :: vs, m, i + 1, x, v, hn, h1, h2, hk => by
    simp at h1 h2
    rw [List.nodup_cons] at hn
    exact bindC_at kd ps vs _ i x v hn.2 h1 h2 hk
theorem lookup_of_nodup {α : Type} : ∀ {l : List (Str × α)} {n : Str} {a : α}, (l.map (·.1)).Nodup → (n, a) ∈ l → l.lookup n = some a
  | [], _, _, _, h => by simp at h
  | (k, v) :: r, n, a, hn, h => by
    simp only [List.map_cons, List.nodup_cons] at hn
    rw [List.lookup_cons]
    rcases List.mem_cons.mp h with h | h
    · cases h; simp
    · have : n ≠ k := fun q => hn.1 (List.mem_map.mpr ⟨_, h, q⟩)
      rw [show (n == k) = false from beq_false_of_ne this]
      exact lookup_of_nodup hn.2 h
theorem IFn_own {name : Str} {params : Arguments} {body : List Stmt} {scope : Scope} {pm cd doc : Value} {a : Addr} {o : Obj} {names ps : List Str} {k : Nat} {m : Mx Fl}
    (hat : a ∉ c.tabs) (ho : c.h0.get? a = some o) (hdata : o.data = .func (Calls.docDef name params body scope pm cd doc)) (hcd : c.h0.CodeRec cd name) (hct : ∀ b, cd = .ref b → b ∉ c.tabs)
    (hbind : ∀ vs : List Value, vs.length = ps.length → bindArgs (Calls.docDef name params body scope pm cd doc) ⟨vs, []⟩ = pure (ps.zip vs))
    (hps : names.take ps.length = ps) (nod : names.Nodup) (hkp : ∀ x ∈ ps, scope.names.lookup x = some .local ∨ scope.names.lookup x = some .cell)
    (hnd : ((cellsFrom 0 scope.names []).map (·.1)).Nodup)
    (hb : ∀ L, IS c (fnF name scope a cd names k L) body m)
    (hco : scope.isCoroutine = false := by rfl) (hgen : scope.isGenerator = false := by rfl) (hk : scope.kind = .function := by rfl) : IFn c (.ref a) (k + 1) (fnP ps.length names.length m) := by
  refine ⟨⟨a, o, _, rfl, hat, ho, hdata⟩, ?_⟩
  intro A s al g vs ds d al' room W hbt r hp Q E hQ
  unfold fnP at hp
  split at hp
  · rename_i hlen
    have hvl : vs.length = ps.length := r.length.trans hlen
    have hcd' : s.heap.CodeRec cd name := by
      obtain ⟨b, ob, vb, t, e1, e2, e3⟩ := hcd
      exact ⟨b, ob, vb, t, e1, W.base b ob (hct b e1) e2, e3⟩
    have hnd' : ∀ L, ((cellsFrom (L + 1) scope.names []).map (·.1)).Nodup := fun L => by rw [cellsFrom_names scope.names (L + 1) 0 [] [] rfl]; exact hnd
    have psn : ps.Nodup := by rw [← hps]; exact nod.sublist (List.take_sublist ..)
    refine wpAny_call (call_cells_ret (by have := room.depth; omega) (W.base a o hat ho) hdata W.nol hcd' (hbind vs hvl) (fun x hx => ?_) (fun h₁ tk Fh Ch => ?_) hco hgen hk)
    · rcases hkp x.1 (zip_fst hx) with h | h
      · exact .inl h
      · exact .inr ⟨h, cellsFrom_some _ _ _ (.inl h)⟩
    · generalize hL : s.heap.objs.size = L at Fh Ch
      have hws : ∀ b ∈ (fnF name scope a cd names k L).ws, s.heap.objs.size ≤ b ∧ ∃ o, h₁.get? b = some o := fun b hb => by
        rcases List.mem_cons.mp hb with rfl | hb
        · obtain ⟨o, es, ep, q, _⟩ := Fh.ns
          exact ⟨Nat.le_of_eq hL, o, q⟩
        · obtain ⟨⟨n, b'⟩, h1, rfl⟩ := List.mem_map.mp hb
          obtain ⟨o, q, _⟩ := Ch.cell n b' (lookup_of_nodup (hnd' L) h1)
          exact ⟨by rw [hL]; exact Nat.le_of_lt (Ch.above n b' h1), o, q⟩
      have nw : ∀ b o, s.heap.get? b = some o → b ∉ (fnF name scope a cd names k L).ws := fun b o e q => by
        have := none_of_size (hws b q).1; rw [e] at this; cases this
      obtain ⟨W1, G1⟩ := W.step (mu' := fun b => g.mu b ∨ b ∈ (fnF name scope a cd names k L).ws) (h' := h₁) (tk := tk) (fun _ => False) (fun _ q => q.elim) (fun b o _ e => Fh.keep b o e) (fun b o e q => q.resolve_right (nw b o e)) (fun b q => .inl (W.rmu b q))
        (fun b q => by
          rcases q with q | q
          · obtain ⟨h1, o, h2⟩ := W.mub b q
            exact ⟨h1, o, Fh.keep b o h2⟩
          · exact ⟨Nat.le_trans W.size (hws b q).1, (hws b q).2⟩)
      have R1 : Rel c (fnF name scope a cd names k L) ⟨ds.map some ++ List.replicate (names.length - ps.length) none, al, []⟩ { g with mu := fun b => g.mu b ∨ b ∈ (fnF name scope a cd names k L).ws } { s with heap := h₁, toks := tk } := by
        refine ⟨W1, ⟨hk, rfl, rfl, List.mem_cons_self .., fun x y b e1 e2 => ?_, nod⟩, ⟨_, Fh.ns⟩, fun i x d e1 e2 => ?_, fun x b e => ?_, fun b q => .inr q, by simp [hbt], fun b q => by simp [hbt] at q, fun i j b e => by simp [hbt] at e, fun i b l e => by simp [hbt] at e⟩
        · exact name_of_addr Ch.apart (mem_of_lookup e1) (mem_of_lookup e2)
        · have hi : i < ds.length := by
            rcases Nat.lt_or_ge i ds.length with h | h
            · exact h
            · exfalso
              have q : (ds.map some ++ List.replicate (names.length - ps.length) none)[i]? = some (some d) := e2
              rw [List.getElem?_append_right (by simpa using h)] at q
              have := List.mem_of_getElem? q
              simp at this
          have q : (ds.map some ++ List.replicate (names.length - ps.length) none)[i]? = some (some d) := e2
          rw [List.getElem?_append_left (by simpa using hi), List.getElem?_map] at q
          obtain ⟨d', q1, q2⟩ := Option.map_eq_some_iff.mp q
          cases q2
          obtain ⟨v, ev, dn⟩ := r.get q1
          have epx : ps[i]? = some x := by
            have q0 : names[i]? = some x := e1
            rw [← hps, List.getElem?_take, if_pos (by omega)]; exact q0
          refine ⟨v, ?_, dn.go G1⟩
          rcases hkp x (List.mem_of_getElem? epx) with h | h
          · exact .inl ⟨h, _, Fh.ns, bindL_at _ ps vs _ i x v psn epx ev h⟩
          · refine .inr ⟨.inl h, ?_⟩
            obtain ⟨b, hb⟩ := Option.isSome_iff_exists.mp (cellsFrom_some scope.names (L + 1) [] (.inl h))
            refine ⟨b, hb, ?_⟩
            have := Ch.cell x b hb
            rw [bindC_at _ ps vs _ i x v psn epx ev h] at this
            exact this
        · exact ⟨.inl (.inr (List.mem_cons_of_mem _ (List.mem_map.mpr ⟨_, mem_of_lookup e, rfl⟩))), _, Ch.cell x b e⟩
      have room' : Room (A.deeper (envOfC name scope L a cd)) k := room.deeper _
      have out : ∀ (fl : Fl) (σ : MS) (v : Value) (s' : Shared) (g' : Gh), Rel c (fnF name scope a cd names k L) σ g' s' → Ext c ((fnF name scope a cd names k L).W { g with mu := fun b => g.mu b ∨ b ∈ (fnF name scope a cd names k L).ws }) { g with mu := fun b => g.mu b ∨ b ∈ (fnF name scope a cd names k L).ws } g' h₁ s'.heap →
          (∀ gr : Gh, gr.rho = g'.rho → (∀ b, gr.mu b ↔ g'.mu b ∧ b ∉ boxesOf g' ∧ b ∉ (fnF name scope a cd names k L).ws) → Gn g' gr s'.heap s'.heap → σ.a = al' ∧ Den gr s'.heap v d) → Q v s' := by
        intro fl σ v s' g' R' x' hd
        obtain ⟨n1, n2, n3⟩ := R'.notAcc'
        obtain ⟨lr, hr, hrl⟩ := x'.rho
        obtain ⟨lb, hlb, hbl⟩ := x'.bet
        have hlb' : g'.bet = lb := by rw [hlb]; simp [hbt]
        have hrw : ∀ a ∈ g'.rho, a ∉ boxesOf g' ∧ a ∉ (fnF name scope a cd names k L).ws := fun b hb => by
          refine ⟨fun q => n3 b (mem_boxes.mp q) hb, fun q => ?_⟩
          rcases List.mem_cons.mp q with rfl | q
          · exact n1 hb
          · obtain ⟨⟨n, b'⟩, h1, rfl⟩ := List.mem_map.mp q
            exact n2 n b' (lookup_of_nodup (hnd' L) h1) hb
        have Gx : Gn g' ⟨g'.rho, [], fun b => g'.mu b ∧ b ∉ boxesOf g' ∧ b ∉ (fnF name scope a cd names k L).ws⟩ s'.heap s'.heap := ⟨fun _ _ _ _ e => e, fun _ _ _ q => q.1, fun _ _ e => e⟩
        have Wr := R'.wd.rebet (mu' := fun b => g'.mu b ∧ b ∉ boxesOf g' ∧ b ∉ (fnF name scope a cd names k L).ws) [] (fun _ q => q.1) (fun b hb => ⟨R'.wd.rmu b hb, hrw b hb⟩)
        obtain ⟨ha, hd⟩ := hd ⟨g'.rho, [], fun b => g'.mu b ∧ b ∉ boxesOf g' ∧ b ∉ (fnF name scope a cd names k L).ws⟩ rfl (fun _ => Iff.rfl) Gx
        rw [ha] at Wr
        have hW : ∀ b o, s.heap.get? b = some o → b ∉ g.rho → b ∉ (fnF name scope a cd names k L).W { g with mu := fun b => g.mu b ∨ b ∈ (fnF name scope a cd names k L).ws } := fun b o e q z => by
          unfold Frm.W at z
          rw [List.mem_append, List.mem_append] at z
          rcases z with (z | z) | z
          · exact nw b o e z
          · exact q z
          · rw [mem_boxes] at z; simp [hbt] at z
        refine hQ v s' _ Wr rfl hd ⟨fun b o q t e => x'.keep b o (hW b o e q) t (Fh.keep b o e), fun b o e => x'.there b o (Fh.keep b o e), fun b o e q => ?_, fun b o e q => ⟨x'.mu2 b o (Fh.keep b o e) (.inl q), fun z => ?_, nw b o e⟩, ⟨lr, hr, fun a q => none_back (fun b o e => ⟨o, Fh.keep b o e⟩) (hrl a q)⟩, ⟨[], by simp [hbt], by simp⟩⟩
        · exact (x'.mu1 b o (Fh.keep b o e) q.1).resolve_right (nw b o e)
        · rw [mem_boxes, hlb'] at z
          have := hbl b z
          rw [Fh.keep b o e] at this; cases this
      split at hp
      · rename_i d0 σ hm
        obtain ⟨d', hf, hpe⟩ := Option.map_eq_some_iff.mp hp
        cases hpe
        refine hb L _ _ _ _ _ _ room' R1 hm _ _ fun fl s' g' R' hfl x' => ?_
        cases fl with
        | ret v =>
          refine out (.ret d0) σ v s' g' R' x' fun gr e1 e2 Gx => ⟨rfl, ?_⟩
          refine Den.frz Gx σ.b (fun i b l q1 q2 hn => ?_) hf hfl
          obtain ⟨vs, n, h1, h2⟩ := R'.box i b l q1 q2
          exact ⟨vs, n, h1, fun q => ((e2 b).mp q).2.1 (mem_boxes.mpr (List.mem_of_getElem? q1)), h2.gn Gx hn⟩
        | _ => exact hfl.elim
      · rename_i σ hm
        cases hp
        refine hb L _ _ _ _ _ _ room' R1 hm _ _ fun fl s' g' R' hfl x' => ?_
        cases fl with
        | next => exact out .next σ .none s' g' R' x' fun gr e1 e2 Gx => ⟨rfl, .none⟩
        | _ => exact hfl.elim
      · cases hp
  · cases hp
end Mine
end
section
open PySem PySem.W PyProof.Rows PySem.SeqAt PySem.Spec
set_option autoImplicit false
namespace Mine
variable {c : Cx} {F : Frm}
noncomputable abbrev Frm.and (F : Frm) (a : Addr) : Frm := { F with ws := a :: F.ws }
noncomputable def AccL (F : Frm) (g : Gh) (h : Heap) (a : Addr) (l : List D) : Prop := Priv F g [a] ∧ ∃ vs n, h.get? a = some (lstO vs n) ∧ DenAll g h vs l
theorem Ext.mono {W W' : List Addr} {g g' : Gh} {h h' : Heap} (x : Ext c W g g' h h') (hs : ∀ a ∈ W, a ∈ W') : Ext c W' g g' h h' :=
  ⟨fun b o q t e => x.keep b o (fun z => q (hs b z)) t e, x.there, x.mu1, x.mu2, x.rho, x.bet⟩
theorem mem_and {g : Gh} {a b : Addr} : b ∈ (F.and a).W g ↔ b = a ∨ b ∈ F.W g := by
  unfold Frm.W
  simp only [List.cons_append, List.mem_cons]
theorem Ext.wide {g g' : Gh} {h h' : Heap} {a : Addr} (x : Ext c (F.W g) g g' h h') : Ext c ((F.and a).W g) g g' h h' := x.mono fun _ q => mem_and.mpr (.inr q)
theorem Rel.and {σ : MS} {g : Gh} {s : Shared} {a : Addr} (R : Rel c F σ g s) (m : g.mu a) : Rel c (F.and a) σ g s :=
  ⟨R.wd, ⟨R.fo.kind, R.fo.glob, R.fo.bi, List.mem_cons_of_mem _ R.fo.wl, R.fo.apart, R.fo.nod⟩, R.loc, R.vars, R.cellx, fun b q => by
    rcases List.mem_cons.mp q with rfl | q
    · exact m
    · exact R.wmu b q, R.blen, R.bmu, R.bnd, R.box⟩
theorem Rel.less {σ : MS} {g : Gh} {s : Shared} {a : Addr} (R : Rel c (F.and a) σ g s) (hl : F.env.locals ∈ F.ws) : Rel c F σ g s :=
  ⟨R.wd, ⟨R.fo.kind, R.fo.glob, R.fo.bi, hl, R.fo.apart, R.fo.nod⟩, R.loc, R.vars, R.cellx, fun b q => R.wmu b (List.mem_cons_of_mem _ q), R.blen, R.bmu, R.bnd, R.box⟩
theorem Priv.less {g : Gh} {a : Addr} {wr : List Addr} (p : Priv (F.and a) g wr) : Priv F g wr ∧ a ∉ wr := ⟨fun b hb => ⟨(p b hb).1, fun q => (p b hb).2.1 (mem_and.mpr (.inr q)), (p b hb).2.2⟩, fun q => (p a q).2.1 (mem_and.mpr (.inl rfl))⟩
theorem priv_low {σ : MS} {g : Gh} {s : Shared} (R : Rel c F σ g s) {wr : List Addr} (p : Priv F g wr) : ∀ b ∈ wr, b ∉ c.tabs := fun b hb t => Nat.lt_irrefl _ (Nat.lt_of_lt_of_le (R.wd.tlow t) (R.wd.mub b (p b hb).1).1)
theorem AccL.go {σ : MS} {g g' : Gh} {s : Shared} {h' : Heap} {a : Addr} {l : List D} (x : AccL F g s.heap a l) (R : Rel c F σ g s) (e : Ext c (F.W g) g g' s.heap h') : AccL F g' h' a l := by
  obtain ⟨p, vs, n, h1, h2⟩ := x
  have ha := (p a (by simp)).2.1
  exact ⟨priv_go p e (fun b hb => by simp at hb; subst hb; exact ⟨_, h1⟩), vs, n, e.keep a _ ha (priv_low R p a (by simp)) h1, h2.go (R.go e)⟩
noncomputable def IEm (c : Cx) (F : Frm) (act : Value → Sem Unit) (m : Mx (List D)) : Prop :=
  ∀ (A : Around) (s : Shared) (σ : MS) (g : Gh) (a : Addr) (l ds : List D) (σ' : MS), Room A F.k → Rel c F σ g s → AccL F g s.heap a l → m σ = some (ds, σ') → l.length + ds.length ≤ 1000000 →
    ∀ (Q : Unit → Shared → Prop) (E : Value → Shared → Prop), (∀ s' g', Rel c F σ' g' s' → AccL F g' s'.heap a (l ++ ds) → Ext c ((F.and a).W g) g g' s.heap s'.heap → Q () s') → wpAny (model c.prog c.w) A (act (.ref a)) Q E s
noncomputable def emitV (elt : Expr) (env : Env) (acc : Value) : Sem Unit := do let _ ← call (.builtin "list.append") [acc, ← eval elt env]
theorem IEm_emit {elt : Expr} {f : Mx D} (he : IE c F elt f) : IEm c F (emitV elt F.env) (bd f fun d => rt [d]) := by
  intro A s σ g a l ds σ' room R al hm hz Q E hQ
  obtain ⟨d, σ1, q1, hm⟩ := bd_some hm
  cases hm
  unfold emitV
  refine wpAny_bind (he A s σ g d _ room R q1 _ _ fun v s1 g1 R1 d1 x1 => ?_)
  obtain ⟨p, vs, n, h1, h2⟩ := al.go R x1
  have hlen := h2.length
  refine wpAny_bind (append_at h1 (fun h' hs ho' => wpAny_pure ?_) (by simp only [List.size_toArray]; rw [hlen, sizeLine_eq]; omega))
  have hk : ∀ b o, b ∉ [a] → s1.heap.get? b = some o → h'.get? b = some o := fun b o q e => (hs.2 b (fun z => q (by simp [z]))).trans e
  have R2 : Rel c F _ g1 { s1 with heap := h', toks := s1.toks } := R1.priv p hk (fun b hb => by simp at hb; subst hb; exact ⟨_, ho'⟩)
  have G : Go g1 g1 s1.heap h' := ⟨fun b o q _ e => hk b o (fun z => by simp at z; subst z; exact q (p b (by simp)).1) e, fun _ _ _ q => q, fun _ _ q => q, fun _ _ q => q⟩
  refine hQ _ g1 R2 ⟨p, vs ++ [v], n + 1, ?_, (h2.go G).append (.cons (d1.go G) .nil)⟩ ?_
  · rw [ho']; simp [lstO]
  · have y : Ext c ((F.and a).W g1) g1 g1 s1.heap h' := by
      refine ⟨fun b o q _ e => hk b o (fun z => by simp at z; subst z; exact q (mem_and.mpr (.inl rfl))) e, fun b o e => ?_, fun _ _ _ q => q, fun _ _ _ q => q, ⟨[], by simp, by simp⟩, ⟨[], by simp, by simp⟩⟩
      by_cases hb : b = a
      · subst hb; exact ⟨_, ho'⟩
      · exact ⟨o, hk b o (by simpa using hb) e⟩
    exact Ext.trans (F := F.and a) x1.wide y
noncomputable def testV (t : Expr) (act : Value → Sem Unit) (env : Env) (acc : Value) : Sem Unit := isTrue t env (eval t env) >>= fun ok => if ok = true then act acc else pure ()
theorem IEm_test {t : Expr} {act : Value → Sem Unit} {mt : Mx Bool} {m : Mx (List D)} (ht : IT c F t mt) (ha : IEm c F act m) : IEm c F (testV t act F.env) (bd mt fun b => if b then m else rt []) := by
  intro A s σ g a l ds σ' room R al hm hz Q E hQ
  obtain ⟨b, σ1, q1, hm⟩ := bd_some hm
  refine wpAny_bind (ht A s σ g b σ1 room R q1 _ _ fun s1 g1 R1 x1 => ?_)
  cases b with
  | true => exact ha A s1 σ1 g1 a l ds σ' room R1 (al.go R x1) hm hz Q E fun s2 g2 R2 a2 x2 => hQ s2 g2 R2 a2 (Ext.trans (F := F.and a) x1.wide x2)
  | false =>
    cases hm
    exact wpAny_pure (hQ s1 g1 R1 (by simpa using al.go R x1) x1.wide)
noncomputable def LoopRule (c : Cx) (e : Expr) (dp : Nat) (tgt : Expr) (env : Env) (act : Value → Sem Unit) : Prop :=
  ∀ (A : Around) (it acc : Value) (R : Result → Shared → Prop) (I : Nat → Shared → Prop) (s : Shared),
    (∀ n s, I n s → wpAny (model c.prog c.w) A (pyNext it) (fun r s₁ => match r with
      | none => R (.ok .next) s₁
      | some v => wpAny (model c.prog c.w) A (letOwnedTupleGo tgt it v) (fun _ s₀ => wpAny (model c.prog c.w) A (assign tgt env v) (fun _ s₂ =>
          wpAny (model c.prog c.w) A (act acc) (fun _ s₅ => ∃ m, m < n ∧ I m s₅) (notedBy (model c.prog c.w) A env fun e s' => R (.error e) s') s₂)
          (notedBy (model c.prog c.w) A env fun e s' => R (.error e) s') s₀) (notedBy (model c.prog c.w) A env fun e s' => R (.error e) s') s₁) (notedBy (model c.prog c.w) A env fun e s' => R (.error e) s') s) →
    ∀ n, I n s → codeAny (model c.prog c.w) A (.compLoop e dp it acc env) R s
theorem loop_plain {elt tgt iter : Expr} {scope : Scope} {pos : Pos} {env : Env} : LoopRule c (.ListComp elt [⟨tgt, iter, [], 0⟩] scope pos) 0 tgt env (emitV elt env) := by
  intro A it acc R I s turn n h
  refine codeAny_loop rfl I (fun n s hI => ?_) n h
  show wpAny _ A ((compTurn (.ListComp elt [⟨tgt, iter, [], 0⟩] scope pos) 0 it acc env).onRaise (fun x => do noteFrame x env; theTreesLotGoes x)) _ _ s
  refine wpAny_noted ?_
  rw [compTurn_list]
  refine wpAny_bind (wpAny_standAt (wpAny_bind (wpAny_mono (turn n s hI) (fun r s₁ h₁ => ?_) fun _ _ h' => h')))
  cases r with
  | none => exact wpAny_pure h₁
  | some v =>
    refine wpAny_bind (wpAny_mono h₁ (fun _ s₀ h₀' => ?_) fun _ _ h' => h')
    refine wpAny_bind (wpAny_mono h₀' (fun _ s₂ h₂ => ?_) fun _ _ h' => h')
    refine wpAny_bind (wpAny_tests_nil ?_)
    exact wpAny_bind (wpAny_mono h₂ (fun _ s₅ h₅ => wpAny_pure ⟨rfl, h₅⟩) fun _ _ h' => h')
noncomputable def clsM (asg : D → MS → Option MS) (m : Mx (List D)) : List D → Mx (List D)
  | [] => rt []
  | d :: ds => fun σ => match asg d σ with
    | none => none
    | some σ1 => match m σ1 with
      | none => none
      | some (o1, σ2) => match clsM asg m ds σ2 with
        | none => none
        | some (o2, σ3) => some (o1 ++ o2, σ3)
structure Since (c : Cx) (F : Frm) (wr : List Addr) (g g' : Gh) (h h' : Heap) : Prop where
  keep : ∀ b o, b ∉ F.W g → b ∉ wr → b ∉ c.tabs → h.get? b = some o → h'.get? b = some o
  there : ∀ b o, b ∉ wr → h.get? b = some o → ∃ o', h'.get? b = some o'
  mu1 : ∀ b o, h.get? b = some o → g'.mu b → g.mu b
  mu2 : ∀ b o, b ∉ wr → h.get? b = some o → g.mu b → g'.mu b
  rho : ∃ l, g'.rho = g.rho ++ l ∧ ∀ a ∈ l, h.get? a = none
  bet : ∃ l, g'.bet = g.bet ++ l ∧ ∀ a, some a ∈ l → h.get? a = none
theorem Since.after {wr : List Addr} {g₀ g g' : Gh} {h₀ h h' : Heap} (y : Since c F wr g g' h h') (x : Ext c (F.W g₀) g₀ g h₀ h) (wn : ∀ b ∈ wr, h₀.get? b = none) : Ext c (F.W g₀) g₀ g' h₀ h' := by
  have nw : ∀ b o, h₀.get? b = some o → b ∉ wr := fun b o e q => by have := wn b q; rw [e] at this; cases this
  obtain ⟨lr, hr, hrl⟩ := x.rho
  obtain ⟨lb, hb, hbl⟩ := x.bet
  obtain ⟨lr', hr', hrl'⟩ := y.rho
  obtain ⟨lb', hb', hbl'⟩ := y.bet
  refine ⟨fun b o hW ht e => ?_, fun b o e => let ⟨o', e'⟩ := x.there b o e; y.there b o' (nw b o e) e', fun b o e q => let ⟨o', e'⟩ := x.there b o e; x.mu1 b o e (y.mu1 b o' e' q),
    fun b o e q => let ⟨o', e'⟩ := x.there b o e; y.mu2 b o' (nw b o e) e' (x.mu2 b o e q), ⟨lr ++ lr', by rw [hr', hr, List.append_assoc], ?_⟩, ⟨lb ++ lb', by rw [hb', hb, List.append_assoc], ?_⟩⟩
  · refine y.keep b o (fun hm => ?_) (nw b o e) ht (x.keep b o hW ht e)
    unfold Frm.W at hm hW
    rw [List.mem_append, List.mem_append] at hm
    rw [List.mem_append, List.mem_append, not_or, not_or] at hW
    rcases hm with (hm | hm) | hm
    · exact hW.1.1 hm
    · rw [hr, List.mem_append] at hm
      rcases hm with hm | hm
      · exact hW.1.2 hm
      · have := hrl b hm; rw [e] at this; cases this
    · rw [mem_boxes, hb, List.mem_append] at hm
      rcases hm with hm | hm
      · exact hW.2 (mem_boxes.mpr hm)
      · have := hbl b hm; rw [e] at this; cases this
  · intro a ha
    rcases List.mem_append.mp ha with ha | ha
    · exact hrl a ha
    · exact none_back x.there (hrl' a ha)
  · intro a ha
    rcases List.mem_append.mp ha with ha | ha
    · exact hbl a ha
    · exact none_back x.there (hbl' a ha)
theorem Since.go {wr : List Addr} {σ : MS} {g g' : Gh} {s : Shared} {h' : Heap} (y : Since c F wr g g' s.heap h') (R : Rel c F σ g s) (p : Priv F g wr) : Go g g' s.heap h' := by
  obtain ⟨lr, hr, hrl⟩ := y.rho
  obtain ⟨lb, hb, hbl⟩ := y.bet
  refine ⟨fun b o m hc e => y.keep b o (fun q => m (R.W b q)) (fun q => m (p b q).1) (fun q => hc (R.wd.tcls b q o e)) e, y.mu1, fun i a e => ?_, fun i a e => ?_⟩
  · rw [hr]
    have := (List.getElem?_eq_some_iff.mp e).1
    rw [List.getElem?_append_left this]; exact e
  · rw [hb]
    have := (List.getElem?_eq_some_iff.mp e).1
    rw [List.getElem?_append_left this]; exact e
theorem clsM_cons {asg : D → MS → Option MS} {m : Mx (List D)} {d : D} {ds : List D} {σ σ' : MS} {r : List D} (h : clsM asg m (d :: ds) σ = some (r, σ')) : ∃ σ4 o5 σ5 o6, asg d σ = some σ4 ∧ m σ4 = some (o5, σ5) ∧ clsM asg m ds σ5 = some (o6, σ') ∧ r = o5 ++ o6 := by
  unfold clsM at h
  cases ea : asg d σ with
  | none => rw [ea] at h; cases h
  | some σ4 =>
    rw [ea] at h
    dsimp only at h
    cases eb : m σ4 with
    | none => rw [eb] at h; cases h
    | some p =>
      obtain ⟨o5, σ5⟩ := p
      rw [eb] at h
      dsimp only at h
      cases ec : clsM asg m ds σ5 with
      | none => rw [ec] at h; cases h
      | some q =>
        obtain ⟨o6, σ6⟩ := q
        rw [ec] at h
        cases h
        exact ⟨σ4, o5, σ5, o6, rfl, eb, ec, rfl⟩
theorem wp_cloop {A : Around} {s₀ s : Shared} {σ σ' : MS} {g : Gh} {e tgt : Expr} {t : Bool} {dp : Nat} {act : Value → Sem Unit} {m : Mx (List D)} {asg : D → MS → Option MS} {ds out l : List D} {I a : Addr} {RR : Result → Shared → Prop}
    (LR : LoopRule c e dp tgt F.env act) (ha : IA c F tgt t asg) (hact : IEm c F act m) (room : Room A F.k) (R0 : Rel c F σ g s) (al0 : AccL F g s.heap a l)
    (it : Itr c (F.and a) A tgt t g s₀.heap s.heap I ds) (hm : clsM asg m ds σ = some (out, σ')) (hz : l.length + out.length ≤ 1000000)
    (hQ : ∀ s' g' wr, Priv (F.and a) g wr → (∀ b ∈ wr, s₀.heap.get? b = none) → Rel c F σ' g' s' → AccL F g' s'.heap a (l ++ out) → Since c (F.and a) wr g g' s.heap s'.heap → RR (.ok .next) s') :
    codeAny (model c.prog c.w) A (.compLoop e dp (.ref I) (.ref a) F.env) RR s := by
  have hwl := R0.fo.wl
  obtain ⟨fp, wr, P, Md, St, K, st0, p0, wn, hob, _, fp0, items⟩ := it
  refine LR A (.ref I) (.ref a) RR
    (fun n s' => ∃ (i : Nat) (σi : MS) (gi : Gh) (li rest : List D), (n = ds.length + 1 - i ∧ i ≤ ds.length) ∧ AccL F gi s'.heap a li ∧ clsM asg m (ds.drop i) σi = some (rest, σ') ∧ li ++ rest = l ++ out ∧ TurnOk c (F.and a) (({ F with ws := wr ++ (a :: F.ws) } : Frm).W g) i σi g g gi s.heap s.heap wr fp St s') s ?_ (ds.length + 1)
    ⟨0, σ, g, l, out, ⟨rfl, Nat.zero_le _⟩, al0, by simpa using hm, rfl, R0.and (al0.1 a (.head _)).1, st0, p0, fp0, Go.refl .., fun b o e => ⟨o, e⟩, Ext.refl ..⟩
  rintro n s1 ⟨i, σ1, g1, li, rest, ⟨hn, hile⟩, al1, hl, hlr, T⟩
  obtain ⟨R1, st1, p1, fp1, G1, th1, x1⟩ := id T
  have ex1 := hob i _ st1
  have hlen : li.length + rest.length = l.length + out.length := by rw [← List.length_append, hlr, List.length_append]
  by_cases hlt : i < ds.length
  · have hd : ds.drop i = ds[i] :: ds.drop (i + 1) := List.drop_eq_getElem_cons hlt
    rw [hd] at hl
    refine K.item i _ _ _ hlt st1 fun v h2 tk2 md2 hk2 => ?_
    refine K.go i v _ _ _ md2 fun h3 hP st3 hk3 => ?_
    dsimp only at hk3
    have hk : ∀ b o, b ∉ wr → s1.heap.get? b = some o → h3.get? b = some o := fun b o q e => hk3 b o q (hk2 b o q e)
    have ex3 := hob (i + 1) _ st3
    have R3 : Rel c (F.and a) σ1 g1 { s1 with heap := h3, toks := tk2 } := R1.priv p1 hk ex3
    have th3 : ∀ b o, s1.heap.get? b = some o → ∃ o', h3.get? b = some o' := fun b o e => by
      by_cases hbw : b ∈ wr
      · exact ex3 b hbw
      · exact ⟨o, hk b o hbw e⟩
    have Gs : Go g1 g1 s1.heap h3 := ⟨fun b o q _ e => hk b o (fun z => q (p1 b z).1) e, fun _ _ _ q => q, fun _ _ q => q, fun _ _ q => q⟩
    have G3 : Go g g1 s.heap h3 := G1.trans Gs th1
    have y3 : Ext c (({ F with ws := wr ++ (a :: F.ws) } : Frm).W g1) g1 g1 s1.heap h3 := ⟨fun b o q _ e => hk b o (fun z => q (mem_W_ws (List.mem_append_left _ z))) e, th3, fun _ _ _ q => q, fun _ _ _ q => q, ⟨[], by simp, by simp⟩, ⟨[], by simp, by simp⟩⟩
    have x3 := x1.trans y3
    have al3 : AccL F g1 h3 a li := by
      obtain ⟨q1, vs, n, q2, q3⟩ := al1
      exact ⟨q1, vs, n, hk a _ p1.less.2 q2, q3.go Gs⟩
    have it3 := items i v h3 g1 ds[i] hP G3 (List.getElem?_eq_getElem hlt)
    obtain ⟨σ4, o5, σ5, o6, ea, eb, ec, hr⟩ := clsM_cons hl
    subst hr
    refine ha A _ σ1 σ4 g1 v ds[i] room (R3.less hwl) it3 ea _ _ fun s4 R4 x4 => ?_
    have hz5 : li.length + o5.length ≤ 1000000 := by
      rw [List.length_append] at hlen; omega
    refine hact A s4 σ4 g1 a li o5 σ5 room R4 (al3.go (R3.less hwl) x4) eb hz5 _ _ fun s5 g5 R5 al5 x5 => ?_
    have x45 : Ext c ((F.and a).W g1) g1 g5 h3 s5.heap := Ext.trans (F := F.and a) x4.wide x5
    have y45 : Ext c (({ F with ws := wr ++ (a :: F.ws) } : Frm).W g1) g1 g5 h3 s5.heap := x45.mono fun b q => by
      rw [mem_and] at q
      unfold Frm.W at q ⊢
      simp only [List.append_assoc, List.mem_append, List.cons_append, List.mem_cons] at q ⊢
      exact .inr q
    exact ⟨ds.length + 1 - (i + 1), by omega, i + 1, σ5, g5, li ++ o5, o6, ⟨rfl, hlt⟩, al5, ec, by rw [List.append_assoc]; exact hlr, T.step (fun h' f => K.frame _ _ _ st3 f) ex3 hk R3 (R5.and (al5.1 a (.head _)).1) x45 (x3.trans y45)⟩
  · have hin : i = ds.length := by omega
    subst hin
    have hd : ds.drop ds.length = [] := List.drop_length ..
    rw [hd] at hl
    cases hl
    rw [List.append_nil] at hlr
    subst hlr
    refine K.done _ _ _ st1 fun h2 tk2 hk2 => ?_
    have R2 := R1.over (tk := tk2) p1 hk2
    have sn : Since c (F.and a) wr g { g1 with mu := fun b => g1.mu b ∧ b ∉ wr } s.heap h2 := by
      refine ⟨fun b o q1 q2 q3 e => hk2 b o q2 (x1.keep b o (fun z => ?_) q3 e), fun b o q e => let ⟨o', e'⟩ := x1.there b o e; ⟨o', hk2 b o' q e'⟩, fun b o e q => x1.mu1 b o e q.1, fun b o q e z => ⟨x1.mu2 b o e z, q⟩, x1.rho, x1.bet⟩
      rw [mem_and] at q1
      unfold Frm.W at q1 z
      simp only [List.append_assoc, List.mem_append, List.cons_append, List.mem_cons] at q1 z
      exact z.elim q2 q1
    have G2 : Go g1 { g1 with mu := fun b => g1.mu b ∧ b ∉ wr } s1.heap h2 := ⟨fun b o q _ e => hk2 b o (fun z => q (p1 b z).1) e, fun _ _ _ q => q.1, fun _ _ q => q, fun _ _ q => q⟩
    refine hQ _ _ wr p0 wn (R2.less hwl) ?_ sn
    obtain ⟨q1, vs, n, q2, q3⟩ := al1
    refine ⟨fun b hb => ?_, vs, n, hk2 a _ p1.less.2 q2, q3.go G2⟩
    have := q1 b hb
    simp at hb; subst hb
    exact ⟨⟨this.1, p1.less.2⟩, this.2.1, this.2.2⟩
end Mine
end
section
open PySem PySem.W PyProof.Rows PySem.SeqAt PySem.Spec
set_option autoImplicit false
namespace Mine
variable {c : Cx} {F : Frm}
noncomputable abbrev cpF (scope : Scope) (cl : List (Str × Addr)) (F : Frm) (names : List Str) (C : Addr) : Frm := { env := compEnvC scope cl C F.env, names := names, ws := [C], k := F.k }
noncomputable def capV (n : Nat) (is : List Nat) (σ : MS) : MS := { σ with v := List.replicate n none ++ is.map (fun i => (σ.v[i]?).join) }
structure CompOk (F : Frm) (scope : Scope) (cl : List (Str × Addr)) (loc cap : List Str) (is : List Nat) : Prop where
  clos : closureFor scope F.env = pure cl
  cell : ∀ y ∈ scope.names, y.2 ≠ .cell
  kind : scope.kind = .function
  names : ∀ y ∈ scope.names, y.2 = .local → scope.names.lookup y.1 = some .local
  nod : (loc ++ cap).Nodup
  sub : ∀ x b, cl.lookup x = some b → F.env.cells.lookup x = some b
  capt : ∀ (j : Nat) y, cap[j]? = some y → ∃ i, is[j]? = some i ∧ F.names[i]? = some y ∧ F.env.kindOf y ≠ some .local ∧ cl.lookup y = F.env.cells.lookup y ∧ ((relabel scope F.env).names.lookup y = some .cell ∨ (relabel scope F.env).names.lookup y = some .free)
theorem mem_W {g : Gh} {b : Addr} : b ∈ F.W g ↔ b ∈ F.ws ∨ b ∈ g.rho ∨ b ∈ boxesOf g := by unfold Frm.W; rw [List.mem_append, List.mem_append, or_assoc]
theorem wp_compCore {A : Around} {s s1 : Shared} {σ τ σ1 σ' : MS} {g g1 : Gh} {e elt tgt iter : Expr} {ifs : List Expr} {rest : List Comprehension} {scope : Scope} {pos : Pos} {t : Bool} {act : Value → Sem Unit} {m : Mx (List D)} {asg : D → MS → Option MS} {ds out : List D} {I a C : Addr} {zs : List Addr} {Fi : Frm} {h₁ : Heap} {tk : Nat}
    {RR : Result → Shared → Prop} (he : e = .ListComp elt (⟨tgt, iter, ifs, 0⟩ :: rest) scope pos) (LR : LoopRule c e 0 tgt Fi.env act) (ha : IA c Fi tgt t asg) (hact : IEm c Fi act m)
    (hws : Fi.ws = C :: zs) (hlc : Fi.env.locals = C) (hcl : ∀ y b, Fi.env.cells.lookup y = some b → b ∈ zs ∨ F.env.cells.lookup y = some b)
    (room : Room A Fi.k) (R : Rel c F σ g s) (R1 : Rel c F σ1 g1 s1) (it : ∀ A' : Around, A'.handled = none → Itr c F A' tgt t g1 s.heap s1.heap I ds) (x1 : Ext c (F.W g) g g1 s.heap s1.heap)
    (old : ∀ b o, s1.heap.get? b = some o → h₁.get? b = some o) (fr : ∀ b ∈ a :: C :: zs, s1.heap.objs.size ≤ b) (ex : ∀ b ∈ a :: C :: zs, ∃ o, h₁.get? b = some o) (hacc : h₁.get? a = some (lstO [] 0)) (hDC : a ≠ C) (hDz : a ∉ zs)
    (RI : Rel c F σ1 (g1.plus (a :: C :: zs)) { s1 with heap := h₁, toks := tk } → Rel c Fi τ (g1.plus (a :: C :: zs)) { s1 with heap := h₁, toks := tk })
    (hm : clsM asg m ds τ = some (out, σ')) (hz : out.length ≤ 1000000)
    (hQ : ∀ s' g', Rel c F ⟨σ1.v, σ'.a, σ'.b⟩ g' s' → Priv F g' [a, C] → (∃ mm, s'.heap.Ns C mm) → (∃ vs n, s'.heap.get? a = some (lstO vs n) ∧ DenAll g' s'.heap vs out) → s.heap.get? a = none → s.heap.get? C = none → Ext c (F.W g) g g' s.heap s'.heap →
      (∀ b o, (b = F.env.locals ∨ ∃ y, F.env.cells.lookup y = some b) → s1.heap.get? b = some o → s'.heap.get? b = some o) → RR (.ok .next) s') :
    codeAny (model c.prog c.w) A (.compStart e 0 (.ref I) (.ref a) Fi.env) RR { s1 with heap := h₁, toks := tk } := by
  obtain ⟨R2, p2, x2, G2⟩ := R1.fresh (tk := tk) old fr ex
  have nw : ∀ b o, s1.heap.get? b = some o → b ∉ a :: C :: zs := fun b o e q => by have := none_of_size (fr b q); rw [e] at this; cases this
  have hn0 : ∀ b ∈ a :: C :: zs, s.heap.get? b = none := fun b q => none_back x1.there (none_of_size (fr b q))
  have RI := RI R2
  have pI : Priv Fi (g1.plus (a :: C :: zs)) [a] := fun b hb => by
    cases List.mem_singleton.mp hb
    obtain ⟨q1, q2, q3⟩ := p2 a (.head _)
    refine ⟨q1, fun z => ?_, fun y e => (hcl y a e).elim hDz (q3 y)⟩
    rw [mem_W, hws, List.mem_cons] at z
    rcases z with (z | z) | z
    · exact hDC z
    · exact hDz z
    · exact q2 (mem_W.mpr (.inr z))
  have al : AccL Fi (g1.plus (a :: C :: zs)) h₁ a [] := ⟨pI, [], 0, hacc, .nil⟩
  have itr : ∀ A' : Around, A'.handled = none → Itr c (Fi.and a) A' tgt t (g1.plus (a :: C :: zs)) s.heap h₁ I ds := fun A' hA => by
    obtain ⟨fp, wr, P, Md, St, K, st0, p0, wn, hob, self, fp0, items⟩ := it A' hA
    refine ⟨fp, wr, P, Md, St, K, K.frame _ _ _ st0 (fun b _ o e => old b o e), fun b hb => ?_, wn, hob, self, fun b hb => ?_, fun i v h' g' d hP G ed => items i v h' g' d hP (G2.trans G fun b o e => ⟨o, old b o e⟩) ed⟩
    · obtain ⟨q1, q2, q3⟩ := p0 b hb
      obtain ⟨o, e⟩ := hob 0 _ st0 b hb
      have hnb := nw b o e
      refine ⟨.inl q1, fun z => ?_, fun y e' => (hcl y b e').elim (fun z => hnb (.tail _ (.tail _ z))) (q3 y)⟩
      rw [mem_and, mem_W, hws] at z
      rcases z with z | z | z
      · exact hnb (z ▸ .head _)
      · exact hnb (.tail _ z)
      · exact q2 (mem_W.mpr (.inr z))
    · rcases fp0 b hb with h | ⟨h1, o, h2, h3⟩
      · exact .inl h
      · exact .inr ⟨fun z => z.elim h1 (nw b o h2), o, old b o h2, h3⟩
  have key : codeAny (model c.prog c.w) A (.compLoop e 0 (.ref I) (.ref a) Fi.env) RR { s1 with heap := h₁, toks := tk } := by
    refine wp_cloop (F := Fi) (s₀ := s) LR ha hact room RI al (itr A room.hh) hm (by simpa using hz) fun s' g' wr pw wn R' al' sn => ?_
    obtain ⟨pw', haw⟩ := pw.less
    have G' : Go (g1.plus (a :: C :: zs)) g' h₁ s'.heap := sn.go (RI.and (pI a (.head _)).1) pw
    obtain ⟨n1, n2, n3⟩ := R2.notAcc'
    have nwr : ∀ b o, s.heap.get? b = some o → b ∉ wr := fun b o e q => by have := wn b q; rw [e] at this; cases this
    have ns : ∀ b o, s.heap.get? b = some o → b ∉ a :: C :: zs := fun b o e q => by have := hn0 b q; rw [e] at this; cases this
    have oW : ∀ b o, s.heap.get? b = some o → b ∉ g1.rho → b ∉ boxesOf g1 → b ∉ (Fi.and a).W (g1.plus (a :: C :: zs)) := fun b o e h1 h2 z => by
      rw [mem_and, mem_W, hws] at z
      rcases z with z | z | z | z
      · exact ns b o e (z ▸ .head _)
      · exact ns b o e (.tail _ z)
      · exact h1 z
      · exact h2 z
    have own : ∀ b, (b = F.env.locals ∨ ∃ y, F.env.cells.lookup y = some b) → (∃ o, s.heap.get? b = some o) ∧ b ∉ c.tabs ∧ b ∉ g1.rho ∧ b ∉ boxesOf g1 := fun b h => by
      rcases h with h | ⟨y, h⟩
      · subst h
        obtain ⟨mm, o, es, ep, ho, hd, _⟩ := R2.loc
        obtain ⟨_, o', _, _, ho', _⟩ := R.loc
        exact ⟨⟨o', ho'⟩, fun t => Nat.lt_irrefl _ (Nat.lt_of_lt_of_le (R2.wd.tlow t) (R2.wd.mub _ (R2.wmu _ R2.fo.wl)).1), n1, fun q => R2.notBox ho (fun vs n z => by rw [hd] at z; cases z) (mem_boxes.mp q)⟩
      · obtain ⟨_, v, o, ho, hd⟩ := R2.cellx y b h
        obtain ⟨_, _, o', ho', _⟩ := R.cellx y b h
        exact ⟨⟨o', ho'⟩, R2.ctab h, n2 y b h, fun q => R2.notBox ho (fun vs n z => by rw [hd] at z; cases z) (mem_boxes.mp q)⟩
    have okp : ∀ b o, (b = F.env.locals ∨ ∃ y, F.env.cells.lookup y = some b) → h₁.get? b = some o → s'.heap.get? b = some o := fun b o h e => by
      obtain ⟨⟨o', e'⟩, h1, h2, h3⟩ := own b h
      exact sn.keep b o (oW b o' e' h2 h3) (nwr b o' e') h1 e
    have RB : Rel c F ⟨σ1.v, σ'.a, σ'.b⟩ g' s' := by
      refine R2.back R'.wd G' (fun b o h e => okp b o h e) (fun b h => ?_) (fun y b o h e m => ?_) R'.blen R'.bmu R'.bnd R'.box
      · obtain ⟨_, o, e⟩ := R.wd.mub b (R.wmu b h)
        obtain ⟨_, o', e'⟩ := R2.wd.mub b (R2.wmu b h)
        exact sn.mu2 b o' (nwr b o e) e' (R2.wmu b h)
      · obtain ⟨⟨o₁, e₁⟩, _, _, _⟩ := own b (.inr ⟨y, h⟩)
        exact sn.mu2 b o (nwr b o₁ e₁) e m
    obtain ⟨pA, vs, n, q2, q3⟩ := al'
    obtain ⟨mC, hnC⟩ := R'.loc
    have nC' := R'.notAcc'.1
    rw [hlc] at hnC nC'
    have pC : g'.mu C ∧ C ∉ g'.rho ∧ C ∉ boxesOf g' := ⟨R'.wmu C (by rw [hws]; exact .head _), nC', fun z => by
      obtain ⟨o, es, ep, ho, hd, _⟩ := hnC
      exact R'.notBox ho (fun vs n q => by rw [hd] at q; cases q) (mem_boxes.mp z)⟩
    have pa : g'.mu a ∧ a ∉ g'.rho ∧ a ∉ boxesOf g' := ⟨(pA a (.head _)).1, fun z => (pA a (.head _)).2.1 (mem_W.mpr (.inr (.inl z))), fun z => (pA a (.head _)).2.1 (mem_W.mpr (.inr (.inr z)))⟩
    have priv : ∀ b, s.heap.get? b = none → g'.mu b ∧ b ∉ g'.rho ∧ b ∉ boxesOf g' → g'.mu b ∧ b ∉ F.W g' ∧ ∀ y, F.env.cells.lookup y ≠ some b := fun b hb p => by
      refine ⟨p.1, fun z => ?_, fun y e => ?_⟩
      · rcases mem_W.mp z with z | z | z
        · obtain ⟨_, o, e⟩ := R.wd.mub b (R.wmu b z)
          rw [hb] at e; cases e
        · exact p.2.1 z
        · exact p.2.2 z
      · obtain ⟨_, _, o, e', _⟩ := R.cellx y b e
        rw [hb] at e'; cases e'
    have na := hn0 a (.head _)
    have nC := hn0 C (.tail _ (.head _))
    refine hQ s' g' RB (fun b hb => ?_) ⟨mC, hnC⟩ ⟨vs, n, q2, q3⟩ na nC ?_ (fun b o h e => okp b o h (old b o e))
    · rcases List.mem_cons.mp hb with h | hb
      · rw [h]; exact priv a na pa
      · rw [List.mem_singleton.mp hb]; exact priv C nC pC
    · have sn' : Since c { F with ws := (a :: C :: zs) ++ F.ws } wr (g1.plus (a :: C :: zs)) g' h₁ s'.heap := ⟨fun b o q => sn.keep b o fun z => q (by
        rw [mem_and, mem_W, hws] at z
        rw [mem_W]
        rcases z with z | z | z
        · exact .inl (List.mem_append_left _ (z ▸ .head _))
        · exact .inl (List.mem_append_left _ (.tail _ z))
        · exact .inr z), sn.there, sn.mu1, sn.mu2, sn.rho, sn.bet⟩
      have y := sn'.after ((x1.trans x2).mono fun b q => mem_W.mpr ((mem_W.mp q).imp (List.mem_append_right _) id)) wn
      refine ⟨fun b o q t e => y.keep b o (fun z => ?_) t e, y.there, y.mu1, y.mu2, y.rho, y.bet⟩
      rcases mem_W.mp z with z | z
      · rcases List.mem_append.mp z with z | z
        · exact ns b o e z
        · exact q (mem_W.mpr (.inl z))
      · exact q (mem_W.mpr (.inr z))
  subst he
  exact codeAny_compStart_list key (by
    obtain ⟨fp, wr, P, Md, St, K, st0, p0, wn, hob, self, fp0, items⟩ := itr A room.hh
    exact self 0 _ _ _ st0 key)
theorem capt_at {σ : MS} {g : Gh} {s : Shared} {loc cap : List Str} {is : List Nat} {i : Nat} {x : Str} {d : D} {cl : List (Str × Addr)} {rs : Str → Prop} (R2 : Rel c F σ g s)
    (capt : ∀ (j : Nat) y, cap[j]? = some y → ∃ i, is[j]? = some i ∧ F.names[i]? = some y ∧ F.env.kindOf y ≠ some .local ∧ cl.lookup y = F.env.cells.lookup y ∧ rs y)
    (e1 : (loc ++ cap)[i]? = some x) (e2 : (capV loc.length is σ).v[i]? = some (some d)) : x ∈ cap ∧ rs x ∧ ∃ v b, Den g s.heap v d ∧ cl.lookup x = some b ∧ s.heap.IsCell b (some v) := by
  have q2 : (List.replicate loc.length none ++ is.map (fun i => (σ.v[i]?).join))[i]? = some (some d) := e2
  rcases Nat.lt_or_ge i loc.length with h | h
  · rw [List.getElem?_append_left (by simpa using h)] at q2
    have := List.mem_of_getElem? q2
    simp at this
  · rw [List.getElem?_append_right h] at e1
    rw [List.getElem?_append_right (by simpa using h), List.length_replicate, List.getElem?_map] at q2
    obtain ⟨i', e3, e4, hk, e5, hk'⟩ := capt _ x e1
    rw [e3] at q2
    have q3 : σ.v[i']? = some (some d) := by
      have : (σ.v[i']?).join = some d := by simpa using q2
      cases z : σ.v[i']? with
      | none => rw [z] at this; cases this
      | some w => rw [z] at this; cases w with
        | none => cases this
        | some w => cases this; rfl
    obtain ⟨v, V, dn⟩ := R2.vars i' x d e4 q3
    rcases V with ⟨k, _⟩ | ⟨k, b, eb, hcell⟩
    · exact absurd k hk
    · exact ⟨List.mem_of_getElem? e1, hk', v, b, dn, e5.trans eb, hcell⟩
theorem wp_compBlock {A : Around} {E : Value → Shared → Prop} {s s1 : Shared} {σ1 σ' : MS} {g g1 : Gh} {e : Expr} {elt tgt iter : Expr} {ifs : List Expr} {rest : List Comprehension} {scope : Scope} {pos : Pos} {cl : List (Str × Addr)} {loc cap : List Str} {is : List Nat} {t : Bool} {act : Addr → Value → Sem Unit} {m : Mx (List D)} {asg : D → MS → Option MS} {ds out : List D} {I : Addr}
    {RR : Value → Addr → Result → Shared → Prop} (he : e = .ListComp elt (⟨tgt, iter, ifs, 0⟩ :: rest) scope pos) (CO : CompOk F scope cl loc cap is) (LR : ∀ C, LoopRule c e 0 tgt (compEnvC scope cl C F.env) (act C)) (ha : ∀ C, IA c (cpF scope cl F (loc ++ cap) C) tgt t asg) (hact : ∀ C, IEm c (cpF scope cl F (loc ++ cap) C) (act C) m)
    (room : Room A F.k) {σ : MS} (R : Rel c F σ g s) (R1 : Rel c F σ1 g1 s1) (it : ∀ A' : Around, A'.handled = none → Itr c F A' tgt t g1 s.heap s1.heap I ds) (x1 : Ext c (F.W g) g g1 s.heap s1.heap)
    (hm : clsM asg m ds (capV loc.length is σ1) = some (out, σ')) (hz : out.length ≤ 1000000)
    (hQ : ∀ a C s' g', a ≠ C → Rel c F ⟨σ1.v, σ'.a, σ'.b⟩ g' s' → Priv F g' [a, C] → (∃ mm, s'.heap.Ns C mm) → (∃ vs n, s'.heap.get? a = some (lstO vs n) ∧ DenAll g' s'.heap vs out) → s.heap.get? a = none → s.heap.get? C = none → Ext c (F.W g) g g' s.heap s'.heap → (∀ b o, (b = F.env.locals ∨ ∃ y, F.env.cells.lookup y = some b) → s1.heap.get? b = some o → s'.heap.get? b = some o) → RR (.ref a) C (.ok .next) s') :
    wpAny (model c.prog c.w) A (newList []) (fun acc s₃ => wpAny (model c.prog c.w) A (newFunctionEnv scope F.env.globals cl [] F.env.qual none .none (some F.env)) (fun cenv s₄ =>
      codeAny (model c.prog c.w) A (.compStart e 0 (.ref I) acc { cenv with scope := relabel scope F.env }) (RR acc cenv.locals) s₄) E s₃) E s1 := by
  refine wpAny_newObj_type (wpAny_newFunctionEnv CO.cell (by intro y hy; simp at hy) (fun h₁ hns₁ hsb₁ => ?_) CO.kind)
  dsimp only at hns₁ hsb₁ ⊢
  generalize hH2 : s1.heap.push { cls := .type "list", dict := none, data := .seq ([] : List Value).toArray } = H2 at hns₁ hsb₁ ⊢
  have hC : H2.objs.size = s1.heap.objs.size + 1 := by rw [← hH2, Heap.size_push]
  have hDC : s1.heap.objs.size ≠ H2.objs.size := by rw [hC]; exact Nat.ne_of_lt (Nat.lt_succ_self _)
  generalize hCe : H2.objs.size = C at hns₁ hsb₁ hC hDC ⊢
  have hacc : h₁.get? s1.heap.objs.size = some (lstO [] 0) := hsb₁.extBut _ _ hDC (Heap.get?_push_of_some _ (hH2 ▸ Heap.get?_push_size _ rfl))
  refine wp_compCore (Fi := cpF scope cl F (loc ++ cap) C) (zs := []) (C := C) he (LR C) (ha C) (hact C) rfl rfl (fun y b e => .inr (CO.sub y b e)) room R R1 it x1
    (fun b o e => hsb₁.extBut b o (Nat.ne_of_lt (by rw [hC]; exact Nat.lt_succ_of_lt (Heap.lt_size e))) (Heap.get?_push_of_some _ (hH2 ▸ Heap.get?_push_of_some _ e))) (fun b hb => ?_) (fun b hb => ?_) hacc hDC (fun h => nomatch h) (fun R2 => ?_) hm hz (hQ _ C · · hDC)
  · rcases List.mem_cons.mp hb with h | hb
    · exact Nat.le_of_eq h.symm
    · rw [List.mem_singleton.mp hb, hC]; exact Nat.le_succ _
  · rcases List.mem_cons.mp hb with h | hb
    · exact ⟨_, h ▸ hacc⟩
    · obtain ⟨o, es, ep, q, _⟩ := hns₁; exact ⟨o, List.mem_singleton.mp hb ▸ q⟩
  · refine ⟨R2.wd, ⟨CO.kind, R1.fo.glob, R1.fo.bi, .head _, fun x y b e1 e2 => R1.fo.apart x y b (CO.sub x b e1) (CO.sub y b e2), CO.nod⟩, ⟨_, hns₁⟩, fun i x d e1 e2 => ?_, fun x b e => R2.cellx x b (CO.sub x b e), fun b q => ?_, R2.blen, R2.bmu, R2.bnd, R2.box⟩
    · obtain ⟨_, hk, v, b, dn, eb, hc⟩ := capt_at R2 CO.capt e1 e2
      exact ⟨v, .inr ⟨hk, b, eb, hc⟩, dn⟩
    · exact List.mem_singleton.mp q ▸ .inr (.tail _ (.head _))
noncomputable def compM (n : Nat) (is : List Nat) (mi : Mx (List D)) (asg : D → MS → Option MS) (m : Mx (List D)) : Mx D := bd mi fun ds => fun σ => match clsM asg m ds (capV n is σ) with
  | none => none
  | some (out, σ') => if out.length ≤ 1000000 then some (.lst out, ⟨σ.v, σ'.a, σ'.b⟩) else none
theorem IE_lc {elt tgt iter : Expr} {ifs : List Expr} {rest : List Comprehension} {scope : Scope} {pos : Pos} {cl : List (Str × Addr)} {loc cap : List Str} {is : List Nat} {t : Bool} {act : Addr → Value → Sem Unit} {mi m : Mx (List D)} {asg : D → MS → Option MS}
    (CO : CompOk F scope cl loc cap is) (hi : IIt c F tgt t iter mi) (LR : ∀ C, LoopRule c (.ListComp elt (⟨tgt, iter, ifs, 0⟩ :: rest) scope pos) 0 tgt (compEnvC scope cl C F.env) (act C)) (ha : ∀ C, IA c (cpF scope cl F (loc ++ cap) C) tgt t asg) (hact : ∀ C, IEm c (cpF scope cl F (loc ++ cap) C) (act C) m)
    (hs : ∀ x, foldedSetIterable iter F.env x = pure x := by intro _; rfl) : IE c F (.ListComp elt (⟨tgt, iter, ifs, 0⟩ :: rest) scope pos) (compM loc.length is mi asg m) := by
  intro A s σ g d σ' room R hm Q E hQ
  obtain ⟨ds, σ1, q1, hm⟩ := bd_some hm
  cases ec : clsM asg m ds (capV loc.length is σ1) with
  | none => rw [ec] at hm; cases hm
  | some r =>
    obtain ⟨out, σ2⟩ := r
    rw [ec] at hm
    dsimp only at hm
    split at hm
    · rename_i hz
      cases hm
      rw [eval_ListComp]
      refine wpAny_comprehension_free (use := none) rfl hs CO.clos CO.kind CO.names (hi A s σ g ds σ1 room R q1 _ _ fun I s1 g1 R1 it x1 => ?_)
      refine wp_compBlock (RR := fun acc C => compPost (model c.prog c.w) A E none Q acc C) rfl CO LR ha hact room R R1 it x1 ec hz fun a C s' g' hne RB pv hC hL na nC x _ => ?_
      obtain ⟨mm, hn⟩ := hC
      refine ⟨mm, hn, fun h' hs' => ?_⟩
      have hk : ∀ b o, b ∉ [a, C] → s'.heap.get? b = some o → h'.get? b = some o := fun b o q e => hs'.extBut b o (fun z => q (by simp [z])) e
      have R2 := RB.over (tk := s'.toks) pv hk
      have G2 : Go g' { g' with mu := fun b => g'.mu b ∧ b ∉ [a, C] } s'.heap h' := ⟨fun b o q _ e => hk b o (fun z => q (pv b z).1) e, fun _ _ _ q => q.1, fun _ _ q => q, fun _ _ q => q⟩
      obtain ⟨vs, n, h1, h2⟩ := hL
      have hn0 : ∀ b ∈ [a, C], s.heap.get? b = none := fun b hb => by
        rcases List.mem_cons.mp hb with rfl | hb
        · exact na
        · simp at hb; subst hb; exact nC
      have nw : ∀ b o, s.heap.get? b = some o → b ∉ [a, C] := fun b o e q => by have := hn0 b q; rw [e] at this; cases this
      refine hQ (.ref a) _ _ R2 (.lst (hs'.extBut a _ hne h1) (fun q => q.2 (by simp)) (h2.go G2)) ?_
      have y := x.skip hn0 hk
      exact ⟨y.keep, y.there, fun b o e q => y.mu1 b o e q.1, fun b o e q => ⟨y.mu2 b o e q, nw b o e⟩, y.rho, y.bet⟩
    · cases hm
theorem comp_store {i : Nat} {x : Str} {p : Pos} {A : Around} {E : Value → Shared → Prop} {Q : Shared → Prop} {s s' : Shared} {τ : MS} {g g' : Gh} {a C : Addr} {out : List D} (hx : F.names[i]? = some x) (hk : Storable F x) (hne : a ≠ C) (RB : Rel c F τ g' s') (pv : Priv F g' [a, C])
    (hC : ∃ mm, s'.heap.Ns C mm) (hL : ∃ vs n, s'.heap.get? a = some (lstO vs n) ∧ DenAll g' s'.heap vs out) (na : s.heap.get? a = none) (nC : s.heap.get? C = none) (x0 : Ext c (F.W g) g g' s.heap s'.heap)
    (hQ : ∀ s4 g4, Rel c F (wr i (.lst out) τ) g4 s4 → Ext c (F.W g) g g4 s.heap s4.heap → Q s4) : compPost (model c.prog c.w) A E (some (assign (.Name x p) F.env)) (fun _ s' => Q s') (.ref a) C (.ok .next) s' := by
  obtain ⟨mm, hn⟩ := hC
  show wpAny _ A (assign (.Name x p) F.env (.ref a)) _ _ _
  have pa : Priv F g' [a] := fun b hb => pv b (by simp at hb; simp [hb])
  have R2 := RB.over (tk := s'.toks) (h' := s'.heap) pa (fun b o _ e => e)
  have G2 : Go g' { g' with mu := fun b => g'.mu b ∧ b ∉ [a] } s'.heap s'.heap := ⟨fun b o q _ e => e, fun _ _ _ q => q.1, fun _ _ q => q, fun _ _ q => q⟩
  obtain ⟨vs, n, h1, h2⟩ := hL
  have hn0 : ∀ b ∈ [a, C], s.heap.get? b = none := fun b hb => by
    rcases List.mem_cons.mp hb with rfl | hb
    · exact na
    · simp at hb; subst hb; exact nC
  have nw : ∀ b o, s.heap.get? b = some o → b ∉ [a, C] := fun b o e q => by have := hn0 b q; rw [e] at this; cases this
  have dn : Den { g' with mu := fun b => g'.mu b ∧ b ∉ [a] } s'.heap (.ref a) (.lst out) := .lst h1 (fun q => q.2 (by simp)) (h2.go G2)
  refine wpAny_assign_Name (wp_store R2 hx hk dn fun s3 R3 x3 => ?_)
  have pc : Priv F { g' with mu := fun b => g'.mu b ∧ b ∉ [a] } [C] := fun b hb => by
    simp at hb; subst hb
    obtain ⟨q1, q2, q3⟩ := pv b (by simp)
    exact ⟨⟨q1, by simpa using hne.symm⟩, q2, q3⟩
  have tC : C ∉ c.tabs := priv_low R2 pc C (by simp)
  refine ⟨mm, hn.at' fun o e => x3.keep C o (pc C (by simp)).2.1 tC e, fun h' hs' => ?_⟩
  have hk : ∀ b o, b ∉ [C] → s3.heap.get? b = some o → h'.get? b = some o := fun b o q e => hs'.extBut b o (fun z => q (by simp [z])) e
  have R4 := R3.over (tk := s3.toks) pc hk
  refine hQ _ _ R4 ?_
  have y1 : Ext c (F.W g) g { g' with mu := fun b => g'.mu b ∧ b ∉ [a] } s.heap s'.heap :=
    ⟨x0.keep, x0.there, fun b o e q => x0.mu1 b o e q.1, fun b o e q => ⟨x0.mu2 b o e q, fun z => nw b o e (by simp at z; simp [z])⟩, x0.rho, x0.bet⟩
  have y := (y1.trans x3).skip (wr := [C]) (fun b hb => hn0 b (by simp at hb; simp [hb])) hk
  exact ⟨y.keep, y.there, fun b o e q => y.mu1 b o e q.1, fun b o e q => ⟨y.mu2 b o e q, fun z => nw b o e (by simp at z; simp [z])⟩, y.rho, y.bet⟩
theorem I1_assign_lc (i : Nat) {x : Str} {p spos : Pos} {elt tgt iter : Expr} {ifs : List Expr} {rest : List Comprehension} {scope : Scope} {pos : Pos} {cl : List (Str × Addr)} {loc cap : List Str} {is : List Nat} {t : Bool} {act : Addr → Value → Sem Unit} {mi m : Mx (List D)} {asg : D → MS → Option MS}
    (hx : F.names[i]? = some x) (hk : Storable F x) (CO : CompOk F scope cl loc cap is) (hi : IIt c F tgt t iter mi) (LR : ∀ C, LoopRule c (.ListComp elt (⟨tgt, iter, ifs, 0⟩ :: rest) scope pos) 0 tgt (compEnvC scope cl C F.env) (act C)) (ha : ∀ C, IA c (cpF scope cl F (loc ++ cap) C) tgt t asg) (hact : ∀ C, IEm c (cpF scope cl F (loc ++ cap) C) (act C) m)
    (hsw : swapsWith (.ListComp elt (⟨tgt, iter, ifs, 0⟩ :: rest) scope pos) (some (.Name x p)) spos.line F.env = pure true := by rfl)
    (hs : ∀ x, foldedSetIterable iter F.env x = pure x := by intro _; rfl) : I1 c F (.Assign [.Name x p] (.ListComp elt (⟨tgt, iter, ifs, 0⟩ :: rest) scope pos) spos) (bd (compM loc.length is mi asg m) fun d => fun σ => some (.next, wr i d σ)) := by
  intro A s σ g fl σ' room R hm Q E hQ
  obtain ⟨d, σ3, q3, hm⟩ := bd_some hm
  cases hm
  obtain ⟨ds, σ1, q1, hm⟩ := bd_some q3
  cases ec : clsM asg m ds (capV loc.length is σ1) with
  | none => rw [ec] at hm; cases hm
  | some r =>
    obtain ⟨out, σ2⟩ := r
    rw [ec] at hm
    dsimp only at hm
    split at hm
    · rename_i hz
      cases hm
      rw [exec_Assign_Name_used _ _ _ _ hsw]
      refine wpAny_bind (wpAny_standAt (wpAny_bind ?_))
      show wpAny _ A (do let _ ← comprehension (.ListComp elt (⟨tgt, iter, ifs, 0⟩ :: rest) scope pos) scope F.env _ (newList []) false (eval iter F.env) (some (assign (.Name x p) F.env))) _ _ s
      refine wpAny_bind (wpAny_mono (wpAny_comprehension_free (use := some (assign (.Name x p) F.env)) (Q := fun _ s' => Q .next s') rfl hs CO.clos CO.kind CO.names
        (hi A s σ g ds σ1 room R q1 _ _ fun I s1 g1 R1 it x1 => ?_)) (fun _ s' hq => wpAny_pure (wpAny_pure hq)) fun _ _ e => e)
      refine wp_compBlock (RR := fun acc C => compPost (model c.prog c.w) A E (some (assign (.Name x p) F.env)) (fun _ s' => Q .next s') acc C) rfl CO LR ha hact room R R1 it x1 ec hz fun a C s' g' hne RB pv hC hL na nC x0 _ => ?_
      exact comp_store hx hk hne RB pv hC hL na nC x0 fun s4 g4 R4 x4 => hQ _ _ _ R4 trivial x4
    · cases hm
end Mine
end
section
open PySem PySem.W PyProof.Rows PySem.SeqAt PySem.Spec
set_option autoImplicit false
namespace Mine
variable {c : Cx} {F : Frm}
theorem loop_test {elt tgt iter t : Expr} {scope : Scope} {pos : Pos} {env : Env} : LoopRule c (.ListComp elt [⟨tgt, iter, [t], 0⟩] scope pos) 0 tgt env (testV t (emitV elt env) env) := by
  intro A it acc R I s turn n h
  refine codeAny_loop rfl I (fun n s hI => ?_) n h
  show wpAny _ A ((compTurn (.ListComp elt [⟨tgt, iter, [t], 0⟩] scope pos) 0 it acc env).onRaise (fun x => do noteFrame x env; theTreesLotGoes x)) _ _ s
  refine wpAny_noted ?_
  rw [compTurn_list]
  refine wpAny_bind (wpAny_standAt (wpAny_bind (wpAny_mono (turn n s hI) (fun r s₁ h₁ => ?_) fun _ _ h' => h')))
  cases r with
  | none => exact wpAny_pure h₁
  | some v =>
    refine wpAny_bind (wpAny_mono h₁ (fun _ s₀ h₀' => ?_) fun _ _ h' => h')
    refine wpAny_bind (wpAny_mono h₀' (fun _ s₂ h₂ => ?_) fun _ _ h' => h')
    have q := wpAny_bind (f := fun _ => again (.compLoop (.ListComp elt [⟨tgt, iter, [t], 0⟩] scope pos) 0 it acc env)) (Q := fun fin s' => match fin with | .done f => R (.ok f) s' | .again c' => c' = (.compLoop (.ListComp elt [⟨tgt, iter, [t], 0⟩] scope pos) 0 it acc env) ∧ ∃ m, m < n ∧ I m s')
      (wpAny_mono h₂ (fun _ s₅ h₅ => wpAny_pure ⟨rfl, h₅⟩) fun _ _ h' => h')
    unfold testV emitV at q
    simp only [List.forIn_cons, List.forIn_nil, if_true, bind_assoc, pure_bind] at q ⊢
    have hf : ∀ b : Bool, ((if b = true then do let x ← eval elt env; let _ ← call (.builtin "list.append") [acc, x]; (pure () : Sem Unit) else pure ()) >>= fun _ => again (.compLoop (.ListComp elt [⟨tgt, iter, [t], 0⟩] scope pos) 0 it acc env)) =
        (if b = true then (do let x ← eval elt env; let _ ← call (.builtin "list.append") [acc, x]; again (.compLoop (.ListComp elt [⟨tgt, iter, [t], 0⟩] scope pos) 0 it acc env)) else again (.compLoop (.ListComp elt [⟨tgt, iter, [t], 0⟩] scope pos) 0 it acc env)) := fun b => by
      cases b <;> simp [bind_assoc]
    simp only [hf] at q
    exact q
end Mine
end
section
open PySem PySem.W PyProof.Rows PySem.SeqAt PySem.Spec
set_option autoImplicit false
namespace Mine
variable {c : Cx} {F : Frm}
noncomputable def OpN (c : Cx) (F : Frm) (fv : Value) (p : List D → Mx D) : Prop :=
  ∀ (A : Around) (s : Shared) (σ : MS) (g : Gh) (vs : List Value) (ds : List D) (d : D) (σ' : MS), Room A F.k → Rel c F σ g s → DenAll g s.heap vs ds → p ds σ = some (d, σ') →
    ∀ (Q : Value → Shared → Prop) (E : Value → Shared → Prop), Kt c F σ' g s d Q → wpAny (model c.prog c.w) A (call fv vs) Q E s
theorem IE_bcall {id : String} {x : Str} {p pos : Pos} {e : Expr} {es : List Expr} {q : List D → Mx D} {m : Mx (List D)} (hx : GlobIs c F x (.builtin id)) (hl : IL c F (e :: es) m) (hf : OpN c F (.builtin id) q)
    (he : starEach (e :: es) F.env = (false, eval e F.env) :: starEach es F.env := by rfl) (hp : (backTo pos (starEach (e :: es) F.env)).any (·.1) = false := by rfl) (hd : (x == ("__debug__" : Str)) = false := by decide +kernel) :
    IE c F (.Call (.Name x p) (e :: es) [] pos) (bd m q) := by
  intro A s σ g d σ' room R hm Q E hQ
  obtain ⟨ds, σ1, q1, hm⟩ := bd_some hm
  refine wpAny_Call_NameR (wp_glob R hx (Calls.callWith_builtin hp ?_) hd)
  have h1 := hl A s σ g ds σ1 room R q1 pos (fun vs s' => wpAny (model c.prog c.w) A (call (.builtin id) vs) Q E s') E
    (fun vs s1 g1 R1 d1 x1 => hf A s1 σ1 g1 vs ds d σ' room R1 d1 hm Q E (fun v s2 g2 R2 d2 x2 => hQ v s2 g2 R2 d2 (x1.trans x2)))
  rw [he] at h1 ⊢
  exact Calls.evalArgs_plain h1
theorem IE_meth {id T : String} {name : Str} {o : Expr} {apos pos : Pos} {e : Expr} {es : List Expr} {q : List D → Mx D} {mo : Mx D} {m : Mx (List D)} (tOk : D → Bool) (ho : IE c F o mo) (hl : IL c F (e :: es) m) (hf : OpN c F (.builtin id) q)
    (pa : PlainAttrs T) (slot : Slot T name id) (hty : typeOf (.builtin id) = pure (.type "method_descriptor"))
    (hT : ∀ (σ : MS) (g : Gh) (s : Shared) (v : Value) (d : D), Rel c F σ g s → Den g s.heap v d → tOk d = true → s.TypeIs v T ∧ ∀ a, v = .ref a → ∃ ob, s.heap.get? a = some ob ∧ ob.dict = none)
    (hbase : attributeBase o name F.env (eval o F.env) = eval o F.env := by rfl)
    (hfew : ((backTo pos (starEach (e :: es) F.env)).all (fun x => !x.1) && (backToKw pos (keywordEach [] F.env)).all (fun x => x.1.isSome)
      && decide ((e :: es).length + ([] : List Keyword).length + (if ([] : List Keyword).isEmpty then 0 else 1) < 30)) = true := by rfl)
    (hline : (apos.endLine == pos.line) = true := by rfl)
    (he : starEach (e :: es) F.env = (false, eval e F.env) :: starEach es F.env := by rfl) (hp : (backTo pos (starEach (e :: es) F.env)).any (·.1) = false := by rfl) :
    IE c F (.Call (.Attribute o name apos) (e :: es) [] pos) (bd mo fun d => if tOk d then bd m fun ds => q (d :: ds) else fun _ => none) := by
  intro A s σ g d σ' room R hm Q E hQ
  obtain ⟨d0, σ0, q0, hm⟩ := bd_some hm
  split at hm
  · rename_i htok
    obtain ⟨ds, σ1, q1, hm⟩ := bd_some hm
    refine wpAny_Call_method hbase hfew hline pa slot hty (ho A s σ g d0 σ0 room R q0 _ _ fun v s0 g0 R0 dn0 x0 => ?_)
    obtain ⟨t1, t2⟩ := hT σ0 g0 s0 v d0 R0 dn0 htok
    refine ⟨t1, t2, Calls.callWith_builtin hp ?_⟩
    have h1 := hl A s0 σ0 g0 ds σ1 room R0 q1 pos (fun vs s' => wpAny (model c.prog c.w) A (call (.builtin id) (v :: vs)) Q E s') E
      (fun vs s1 g1 R1 d1 x1 => hf A s1 σ1 g1 (v :: vs) (d0 :: ds) d σ' room R1 (.cons (dn0.go (R0.go x1)) d1) hm Q E (fun v s2 g2 R2 d2 x2 => hQ v s2 g2 R2 d2 ((x0.trans x1).trans x2)))
    rw [he] at h1 ⊢
    exact Calls.evalArgs_plain h1
  · cases hm
noncomputable def lenD (b : List (List D)) : D → Option Nat
  | .str x => some x.length
  | .lst l => some l.length
  | .tup l => some l.length
  | .box i => (b[i]?).map (·.length)
  | _ => none
noncomputable def lenM : List D → Mx D
  | [d] => fun σ => match lenD σ.b d with
    | some n => if n ≤ 1000000 then some (.int n, σ) else none
    | none => none
  | _ => fun _ => none
theorem op_len : OpN c F (.builtin "len") lenM := by
  intro A s σ g vs ds d σ' room R r hp Q E P
  unfold lenM at hp
  split at hp
  · rename_i d0
    cases r with
    | cons dn r =>
      cases r
      split at hp
      · rename_i n hl
        split at hp
        · rename_i hz
          cases hp
          cases dn with
          | str x t => cases hl; exact PySem.P.len_str (by omega) (P.flat R (.int _ _))
          | lst h1 m1 r1 =>
            cases hl
            rename_i a vs n' ds'
            refine Calls.call_len_list ⟨_, h1, rfl, n', rfl⟩ (by simp [r1.length]; omega) ?_
            have : (vs.toArray.size : Int) = ((ds'.length : Nat) : Int) := by simp [r1.length]
            rw [this]
            exact P.flat R (.int _ _)
          | tup h1 m1 r1 =>
            cases hl
            rename_i a vs n' ds'
            refine len_tuple (items := vs.toArray) ⟨_, h1, rfl, n', rfl⟩ (by simp [r1.length]; omega) ?_
            have : (vs.toArray.size : Int) = ((ds'.length : Nat) : Int) := by simp [r1.length]
            rw [this]
            exact P.flat R (.int _ _)
          | box hb =>
            rename_i i a
            have hl' : (σ.b[i]?).map (·.length) = some n := hl
            obtain ⟨l, e1, rfl⟩ := Option.map_eq_some_iff.mp hl'
            obtain ⟨vs, n', h1, h2⟩ := R.box i a l hb e1
            refine Calls.call_len_list ⟨_, h1, rfl, n', rfl⟩ (by simp [h2.length]; omega) ?_
            have : (vs.toArray.size : Int) = ((l.length : Nat) : Int) := by simp [h2.length]
            rw [this]
            exact P.flat R (.int _ _)
          | none => cases hl
          | bool => cases hl
          | int => cases hl
          | acc => cases hl
          | adr => cases hl
        · cases hp
      · cases hp
  · cases hp
noncomputable def strL : List D → Option (List Str)
  | [] => some []
  | .str x :: l => (strL l).map (x :: ·)
  | _ :: _ => none
theorem strsAre {g : Gh} {h : Heap} : ∀ {ds : List D} {ys : List Str} {vs : List Value}, strL ds = some ys → DenAll g h vs ds → StrsAre vs ys
  | [], _, _, e, r => by cases e; cases r; exact .nil
  | d :: l, _, _, e, r => by
    unfold strL at e
    split at e
    · rename_i hh; cases hh
    · rename_i x l' e2
      cases e2
      obtain ⟨ys, e3, rfl⟩ := Option.map_eq_some_iff.mp e
      cases r with
      | cons a r => cases a; exact .cons _ _ (strsAre e3 r)
    · cases e
noncomputable def boxL (b : List (List D)) : D → Option (List D)
  | .lst l => some l
  | .box i => b[i]?
  | _ => none
noncomputable def joinM : List D → Mx D
  | [.str x, d] => fun σ => match boxL σ.b d with
    | some l => match strL l with
      | some ys => if (ys.map (·.length)).sum + ys.length * x.length ≤ 1000000 then some (.str (Txt.join x ys), σ) else none
      | none => none
    | none => none
  | _ => fun _ => none
theorem op_join : OpN c F (.builtin "str.join") joinM := by
  intro A s σ g vs ds d σ' room R r hp Q E P
  unfold joinM at hp
  split at hp
  · rename_i x d0
    split at hp
    · rename_i l hl
      split at hp
      · rename_i ys hy
        split at hp
        · rename_i hz
          cases hp
          obtain ⟨_, u, rfl, d1, d2⟩ := r.twoI
          obtain ⟨_, rfl⟩ := d1.strI
          obtain ⟨a, vs, n', rfl, h1, h2⟩ : ∃ a vs n', u = .ref a ∧ s.heap.get? a = some (lstO vs n') ∧ DenAll g s.heap vs l := by
            cases d2 with
            | lst h1 m1 r1 => cases hl; exact ⟨_, _, _, rfl, h1, r1⟩
            | box hb => obtain ⟨vs, n', h1, h2⟩ := R.box _ _ l hb hl; exact ⟨_, _, _, rfl, h1, h2⟩
            | _ => cases hl
          exact join_list ⟨_, h1, rfl, _, rfl⟩ (by simpa using strsAre hy h2) (by omega) fun t' k => P.flat R (.str _ _)
        · cases hp
      · cases hp
    · cases hp
  · cases hp
noncomputable def isStr : D → Bool
  | .str _ => true
  | _ => false
theorem typ_str (σ : MS) (g : Gh) (s : Shared) (v : Value) (d : D) (_ : Rel c F σ g s) (dn : Den g s.heap v d) (h : isStr d = true) : s.TypeIs v "str" ∧ ∀ a, v = .ref a → ∃ ob, s.heap.get? a = some ob ∧ ob.dict = none := by
  cases dn <;> first | exact ⟨typeIs_str _ _ _, fun _ e => nomatch e⟩ | cases h
theorem IE_join {o e : Expr} {apos pos : Pos} {mo : Mx D} {m : Mx (List D)} (ho : IE c F o mo) (hl : IL c F [e] m) (hbase : attributeBase o "join" F.env (eval o F.env) = eval o F.env := by rfl)
    (hfew : ((backTo pos (starEach [e] F.env)).all (fun x => !x.1) && (backToKw pos (keywordEach [] F.env)).all (fun x => x.1.isSome)
      && decide ([e].length + ([] : List Keyword).length + (if ([] : List Keyword).isEmpty then 0 else 1) < 30)) = true := by rfl)
    (hline : (apos.endLine == pos.line) = true := by rfl)
    (he : starEach [e] F.env = (false, eval e F.env) :: starEach [] F.env := by rfl) (hp : (backTo pos (starEach [e] F.env)).any (·.1) = false := by rfl) :
    IE c F (.Call (.Attribute o "join" apos) [e] [] pos) (bd mo fun d => if isStr d then bd m fun ds => joinM (d :: ds) else fun _ => none) :=
  IE_meth isStr ho hl op_join PySem.F.plainAttrs_str PySem.F.slot_str_join PySem.F.type_str_join typ_str hbase hfew hline he hp
theorem Rel.addBox {σ : MS} {g : Gh} {s : Shared} {a : Addr} {vs : List Value} {n : Nat} {l : List D} (R : Rel c F σ g s) (p : Priv F g [a]) (h1 : s.heap.get? a = some (lstO vs n)) (h2 : DenAll g s.heap vs l) :
    Rel c F { σ with b := σ.b ++ [l] } { g with bet := g.bet ++ [some a] } s ∧ Go g { g with bet := g.bet ++ [some a] } s.heap s.heap := by
  have G : Go g { g with bet := g.bet ++ [some a] } s.heap s.heap := ⟨fun _ _ _ _ e => e, fun _ _ _ q => q, fun _ _ e => e, fun i b e => by
    have := (List.getElem?_eq_some_iff.mp e).1
    show (g.bet ++ [some a])[i]? = _
    rw [List.getElem?_append_left this]; exact e⟩
  obtain ⟨ma, na, ca⟩ := p a (by simp)
  have nb : ∀ i, g.bet[i]? ≠ some (some a) := fun i e => na (mem_W_box (List.mem_of_getElem? e))
  refine ⟨⟨R.wd.rebet (mu' := g.mu) _ (fun _ q => q) R.wd.rmu, R.fo, R.loc, fun i x d e1 e2 => ?_, R.cellx, R.wmu, by simp [R.blen], fun b q => ?_, fun i j b e1 e2 => ?_, fun i b l' e1 e2 => ?_⟩, G⟩
  · obtain ⟨v, V, dn⟩ := R.vars i x d e1 e2
    exact ⟨v, V, dn.go G⟩
  · rcases List.mem_append.mp q with q | q
    · exact R.bmu b q
    · simp at q; subst q; exact ma
  · have f : ∀ i, (g.bet ++ [some a])[i]? = some (some b) → g.bet[i]? = some (some b) ∨ (i = g.bet.length ∧ b = a) := fun i e => by
      rcases Nat.lt_or_ge i g.bet.length with h | h
      · rw [List.getElem?_append_left h] at e; exact .inl e
      · rw [List.getElem?_append_right h] at e
        have hi : i - g.bet.length = 0 := by
          rcases Nat.eq_zero_or_pos (i - g.bet.length) with z | z
          · exact z
          · rw [List.getElem?_eq_none (by simp; omega)] at e; cases e
        rw [hi] at e; simp at e
        exact .inr ⟨by omega, e.symm⟩
    rcases f i e1 with q1 | ⟨q1, q1'⟩ <;> rcases f j e2 with q2 | ⟨q2, q2'⟩
    · exact R.bnd i j b q1 q2
    · subst q2'; exact absurd q1 (nb i)
    · subst q1'; exact absurd q2 (nb j)
    · omega
  · have e1' : (g.bet ++ [some a])[i]? = some (some b) := e1
    have e2' : (σ.b ++ [l])[i]? = some l' := e2
    rcases Nat.lt_or_ge i g.bet.length with h | h
    · rw [List.getElem?_append_left h] at e1'
      rw [List.getElem?_append_left (by rw [← R.blen]; exact h)] at e2'
      obtain ⟨vs, n, q1, q2⟩ := R.box i b l' e1' e2'
      exact ⟨vs, n, q1, q2.go G⟩
    · rw [List.getElem?_append_right h] at e1'
      rw [List.getElem?_append_right (by rw [← R.blen]; exact h)] at e2'
      have hi : i - g.bet.length = 0 := by
        rcases Nat.eq_zero_or_pos (i - g.bet.length) with z | z
        · exact z
        · rw [List.getElem?_eq_none (by simp; omega)] at e1'; cases e1'
      rw [hi] at e1'; simp at e1'
      rw [← R.blen, hi] at e2'; simp at e2'
      subst e1' e2'
      exact ⟨vs, n, h1, h2.go G⟩
theorem IE_listBox {es : List Expr} {pos : Pos} {m : Mx (List D)} (h : IL c F es m) : IE c F (.List es pos) (bd m fun l => fun σ => if l.length ≤ 1000000 then some (.box σ.b.length, { σ with b := σ.b ++ [l] }) else none) := by
  intro A s σ g d σ' room R hm Q E hQ
  obtain ⟨l, σ1, q1, hm⟩ := bd_some hm
  split at hm
  · rename_i hlen
    cases hm
    refine wpAny_List (h A s σ g l σ1 room R q1 pos _ _ fun vs s1 g1 R1 d1 x1 => ⟨?_, ?_⟩)
    · rw [d1.length, sizeLine_eq]; omega
    · have hge : (s1.heap.push (lstO vs 0)).get? s1.heap.objs.size = some (lstO vs 0) := Heap.get?_push_size _ rfl
      obtain ⟨R2, p2, x2, G2⟩ := R1.fresh (tk := s1.toks) (wr := [s1.heap.objs.size]) (fun b o e => Heap.get?_push_of_some (lstO vs 0) e) (fun b hb => by simp at hb; subst hb; exact Nat.le_refl _) (fun b hb => by simp at hb; subst hb; exact ⟨_, hge⟩)
      obtain ⟨R3, G3⟩ := R2.addBox p2 hge (d1.go G2)
      refine hQ _ _ _ R3 (.box ?_) (x1.trans ⟨x2.keep, x2.there, x2.mu1, x2.mu2, x2.rho, ⟨[some s1.heap.objs.size], rfl, fun a ha => ?_⟩⟩)
      · show (g1.bet ++ [some s1.heap.objs.size])[σ1.b.length]? = _
        rw [← R1.blen]; simp
      · simp at ha; subst ha; exact none_of_size (Nat.le_refl _)
  · cases hm
theorem Rel.setBox {σ : MS} {g : Gh} {s : Shared} (R : Rel c F σ g s) {i : Nat} {a : Addr} {vs : List Value} {n : Nat} {l' : List D} {h' : Heap} {tk : Nat} (ha : g.bet[i]? = some (some a)) (hs : Heap.SameBut a s.heap h')
    (h1 : h'.get? a = some (lstO vs n)) (h2 : DenAll g s.heap vs l') : Rel c F { σ with b := σ.b.set i l' } g { s with heap := h', toks := tk } ∧ Ext c (F.W g) g g s.heap h' := by
  have hab : some a ∈ g.bet := List.mem_of_getElem? ha
  have am := R.bmu a hab
  have hkeep : ∀ b o, b ≠ a → s.heap.get? b = some o → h'.get? b = some o := fun b o q e => (hs.2 b q).trans e
  have th : ∀ b o', s.heap.get? b = some o' → ∃ o'', h'.get? b = some o'' := fun b o' e => by
    by_cases hb : b = a
    · subst hb; exact ⟨_, h1⟩
    · exact ⟨o', hkeep b o' hb e⟩
  obtain ⟨W', G⟩ := R.wd.step (mu' := g.mu) (tk := tk) (h' := h') (fun b => b = a) (fun b q => by subst q; exact ⟨am, R.notAcc'.2.2 b hab⟩) (fun b o' q e => hkeep b o' q e) (fun _ _ _ q => q) R.wd.rmu
    fun b q => ⟨(R.wd.mub b q).1, let ⟨o', e⟩ := (R.wd.mub b q).2; th b o' e⟩
  have hl : ∀ o, s.heap.get? F.env.locals = some o → h'.get? F.env.locals = some o := fun o e => hkeep _ o (fun q => by
    obtain ⟨m, o', es, ep, ho, hd, _⟩ := R.loc
    exact R.notBox ho (fun vs n z => by rw [hd] at z; cases z) (q ▸ hab)) e
  have hc : ∀ y b, F.env.cells.lookup y = some b → ∀ o, s.heap.get? b = some o → h'.get? b = some o := fun y b e o he => hkeep b o (fun q => by
    obtain ⟨_, v, o', ho, hd⟩ := R.cellx y b e
    exact R.notBox ho (fun vs n z => by rw [hd] at z; cases z) (q ▸ hab)) he
  refine ⟨⟨W', R.fo, ?_, fun j x d e1 e2 => ?_, fun x b e => ?_, R.wmu, by simp [R.blen], R.bmu, R.bnd, fun j b l e1 e2 => ?_⟩,
    fun b o' hW _ e => hkeep b o' (fun q => hW (q ▸ mem_W_box hab)) e, th, fun _ _ _ q => q, fun _ _ _ q => q, ⟨[], by simp, by simp⟩, ⟨[], by simp, by simp⟩⟩
  · obtain ⟨m, hn⟩ := R.loc
    exact ⟨m, hn.at' hl⟩
  · obtain ⟨v, V, dn⟩ := R.vars j x d e1 e2
    exact ⟨v, V.at hl hc, dn.go G⟩
  · obtain ⟨m, v, o, ho, r⟩ := R.cellx x b e
    exact ⟨m, v, o, hc x b e o ho, r⟩
  · have e2' : (σ.b.set i l')[j]? = some l := e2
    by_cases hj : j = i
    · subst hj
      have hba : b = a := by rw [ha] at e1; cases e1; rfl
      subst hba
      rw [List.getElem?_set_self'] at e2'
      cases z : σ.b[j]? with
      | none => rw [z] at e2'; cases e2'
      | some _ =>
        rw [z] at e2'; cases e2'
        exact ⟨vs, n, h1, h2.go G⟩
    · rw [List.getElem?_set_ne (fun z => hj z.symm)] at e2'
      obtain ⟨vs', n', q1, q2⟩ := R.box j b l e1 e2'
      exact ⟨vs', n', hkeep b _ (fun q => hj (R.bnd j i a (q ▸ e1) ha)) q1, q2.go G⟩
noncomputable def appM : List D → Mx D
  | [.box i, d] => fun σ => match σ.b[i]? with
    | some l => if l.length < 1000000 then some (.none, { σ with b := σ.b.set i (l ++ [d]) }) else none
    | none => none
  | _ => fun _ => none
theorem op_append : OpN c F (.builtin "list.append") appM := by
  intro A s σ g vs ds d σ' room R r hp Q E P
  unfold appM at hp
  split at hp
  · rename_i i d0
    split at hp
    · rename_i l hl
      split at hp
      · rename_i hz
        cases hp
        obtain ⟨_, v, rfl, d1, d2⟩ := r.twoI
        obtain ⟨_, rfl, hb⟩ := d1.boxI
        obtain ⟨vs, n', h1, h2⟩ := R.box _ _ l hb hl
        refine append_at h1 (fun h' hs ho' => ?_) (by simp only [List.size_toArray]; rw [h2.length, sizeLine_eq]; omega)
        obtain ⟨R', x'⟩ := R.setBox (tk := s.toks) (vs := vs ++ [v]) (n := n' + 1) hb hs (by rw [ho']; simp [lstO]) (h2.append (.cons d2 .nil))
        exact P .none _ g R' .none x'
      · cases hp
    · cases hp
  · cases hp
noncomputable def isBox : D → Bool
  | .box _ => true
  | _ => false
theorem typ_box (σ : MS) (g : Gh) (s : Shared) (v : Value) (d : D) (R : Rel c F σ g s) (dn : Den g s.heap v d) (h : isBox d = true) : s.TypeIs v "list" ∧ ∀ a, v = .ref a → ∃ ob, s.heap.get? a = some ob ∧ ob.dict = none := by
  cases dn with
  | box hb =>
    rename_i i a
    obtain ⟨hi, e⟩ := List.getElem?_eq_some_iff.mp hb
    obtain ⟨vs, n, h1, _⟩ := R.box i a (σ.b[i]'(by rw [← R.blen]; exact hi)) hb (List.getElem?_eq_getElem _)
    exact ⟨⟨_, h1, rfl⟩, fun b q => by cases q; exact ⟨_, h1, rfl⟩⟩
  | _ => cases h
theorem IE_append {o e : Expr} {apos pos : Pos} {mo : Mx D} {m : Mx (List D)} (ho : IE c F o mo) (hl : IL c F [e] m) (hbase : attributeBase o "append" F.env (eval o F.env) = eval o F.env := by rfl)
    (hfew : ((backTo pos (starEach [e] F.env)).all (fun x => !x.1) && (backToKw pos (keywordEach [] F.env)).all (fun x => x.1.isSome)
      && decide ([e].length + ([] : List Keyword).length + (if ([] : List Keyword).isEmpty then 0 else 1) < 30)) = true := by rfl)
    (hline : (apos.endLine == pos.line) = true := by rfl)
    (he : starEach [e] F.env = (false, eval e F.env) :: starEach [] F.env := by rfl) (hp : (backTo pos (starEach [e] F.env)).any (·.1) = false := by rfl) :
    IE c F (.Call (.Attribute o "append" apos) [e] [] pos) (bd mo fun d => if isBox d then bd m fun ds => appM (d :: ds) else fun _ => none) :=
  IE_meth isBox ho hl op_append PySem.F.plainAttrs_list PySem.F.slot_list_append PySem.F.type_list_append typ_box hbase hfew hline he hp
end Mine
end
section
open PySem PySem.W PyProof.Rows PySem.SeqAt PySem.Spec
set_option autoImplicit false
namespace Mine
section
variable {K : Frag} {prog : Program} {w : World} {A : Around} {E : Value → Shared → Prop} {s : Shared}
theorem sub_check {id n : String} {a C : Addr} {ox : Obj} {od : Option Obj} {rest : List Value} {Q : Unit → Shared → Prop} (X : K.In s.heap) (I : InstAt s.heap a ox C od) (hsub : mroIn K C (.type "list") = some true)
    (hsplit : splitId id = some ("list", n)) (hkind : (Manifest.find? "list").bind (·.attrs.lookup n) = some .slot ∨ (Manifest.find? "list").bind (·.attrs.lookup n) = some .method) (ha : argsOk id ⟨.ref a :: rest, []⟩) (hQ : Q () s) :
    wpAny (model prog w) A (checkBuiltinCall id ⟨.ref a :: rest, []⟩) Q E s := by
  have hk : builtinKind id = (Manifest.find? "list").bind (·.attrs.lookup n) := by simp only [builtinKind, hsplit]
  rcases hkind with h | h <;>
  · simp only [checkBuiltinCall, hk, h, hsplit]
    refine wpAny_bind ?_
    unfold isInstance
    refine wpAny_bind (I.type.here ((looks_mroIn X hsub).here ?_))
    simp only [Bool.not_true, Bool.false_eq_true, if_false]
    cases hsig : Manifest.signature? id with
    | none => exact wpAny_pure hQ
    | some sig =>
      simp only [argsOk, hsig] at ha
      have h2 : Bind.checkArgs id sig ⟨.ref a :: rest, []⟩ = pure () := ha
      show wpAny _ A (Bind.checkArgs id sig ⟨.ref a :: rest, []⟩) Q E s
      rw [h2]; exact wpAny_pure hQ
theorem method_fnL {f : Addr} {x C : Addr} {ox : Obj} {od : Option Obj} {name : Str} {pl : Sem Bool} {Q : Value × List Value → Shared → Prop} (X : K.In s.heap) (I : InstAt s.heap x ox C od) (hga : findIn K (.ref C) "__getattribute__" = some (some (.builtin "list.__getattribute__"))) (hk : findIn K (.ref C) "__getattr__" = some none)
    (hf : findIn K (.ref C) name = some (some (.ref f))) (ht : typeIn K (.ref f) = some (.type "function")) (hs : shadowIn od name = some false) (h : Q (.ref f, [.ref x]) s) :
    wpAny (model prog w) A (getMethod (.ref x) name pl) Q E s := by
  have hcan : (Manifest.canonical "list.__getattribute__" != "object.__getattribute__") = false := by decide +kernel
  unfold getMethod specialOf
  refine wpAny_bind (wpAny_bind (I.type.here ((looks_findIn X hga).here ?_)))
  dsimp only
  rw [hcan, if_neg (by decide)]
  refine wpAny_bind (wpAny_bind (I.type.here ((looks_findIn X hk).here ?_)))
  refine wpAny_bind (wpAny_bind (I.type.here ((looks_findIn X hf).here (wpAny_bind ((looks_typeIn X ht).here ?_)))))
  rw [if_neg (by decide +kernel)]
  refine wpAny_bind (wpAny_loadPart I.at_ ?_)
  have hd := I.dict
  cases e : ox.dict with
  | none => exact wpAny_bind (wpAny_rule (wpAny_pure h))
  | some dx =>
    cases od with
    | none => rw [e] at hd; exact hd.elim
    | some o =>
      rw [e] at hd
      obtain ⟨r, a, b⟩ := Option.map_eq_some_iff.mp hs
      refine wpAny_bind (wpAny_bind (wpAny_loadPart hd ?_))
      rw [nsLook_of a]
      refine wpAny_pure ?_
      rw [b]
      exact wpAny_bind (wpAny_rule (wpAny_pure h))
theorem get_valueL {x C : Addr} {ox : Obj} {od : Option Obj} {name : Str} {expr : Bool} {Q : Value → Shared → Prop} {v : Value} (X : K.In s.heap) (I : InstAt s.heap x ox C od) (hga : findIn K (.ref C) "__getattribute__" = some (some (.builtin "list.__getattribute__"))) (hk : findIn K (.ref C) "__getattr__" = some none)
    (hsub : mroIn K C (.type "list") = some true) (hf : findObj K C od name = some (.value v)) (hh : handedIn v = true) (h : Q v { s with toks := s.toks + 1 }) : wpAny (model prog w) A (getAttr (.ref x) name expr) Q E s := by
  obtain ⟨hh', g, d, t, os⟩ := s
  have L0 := I.type (M := model prog w)
  have L1 := looks_findIn (M := model prog w) X hga
  have L2 := looks_findIn (M := model prog w) X hk
  have L3 := looks_find (M := model prog w) X I hf
  unfold getAttr getAttrBy
  refine wpAny_bind (wpAny_mkText (wpAny_holding (wpAny_bind (L0.at (wpAny_bind (L1.at ?_))))))
  have hne : (onTheHeap (.ref C) && (Value.builtin "list.__getattribute__" == .builtin "object.__getattribute__")) = false := by
    show (Value.builtin "list.__getattribute__" == .builtin "object.__getattribute__") = false
    decide +kernel
  dsimp only
  rw [if_neg (by rw [hne]; decide)]
  show wpAny _ _ (getAttrByItsOwn (.ref x) (.str name t) (.ref C) (.builtin "list.__getattribute__") true expr) _ _ _
  unfold getAttrByItsOwn hookBefore callGetattribute boundAndCalled
  refine wpAny_bind ?_
  show wpAny _ _ (typeLookup (.ref C) "__getattr__") _ _ _
  refine L2.at ?_
  refine wpAny_bind (wpAny_attempt (wpAny_holding ?_))
  rw [show (expr && onTheHeap (.builtin "list.__getattribute__")) = false from Bool.and_false _]
  show wpAny _ _ (bindSpecial (.builtin "list.__getattribute__") (.ref x) >>= _) _ _ _
  refine wpAny_bind (wpAny_of_eq (PySem.F.slot_list_getattribute.bind _) ?_)
  show wpAny _ _ (call (.builtin "list.__getattribute__") [.ref x, .str name t]) _ _ _
  have key : wpAny (model prog w) A (call (.builtin "list.__getattribute__") [.ref x, .str name t]) (fun v' s' => v' = v ∧ s' = ⟨hh', g, d, t + 1, os⟩) (fun _ _ => False) ⟨hh', g, d, t + 1, os⟩ := by
    have k1 : splitId "list.__getattribute__" = some ("list", "__getattribute__") := by decide +kernel
    have k2 : (Manifest.find? "list").bind (·.attrs.lookup "__getattribute__") = some .slot := by decide +kernel
    have I' : W.InstAt (⟨hh', g, d, t + 1, os⟩ : Shared).heap x ox C od := I
    have X' : K.In (⟨hh', g, d, t + 1, os⟩ : Shared).heap := X
    refine wpAny_call (codeAny_call_builtin PySem.F.slot_list_getattribute.plain PySem.F.entry_list_ga ?_)
    refine @sub_check K prog w A.in1 _ ⟨hh', g, d, t+1, os⟩ "list.__getattribute__" "__getattribute__" x C ox od [.str name t] _ X' I' hsub k1 (.inl k2) (PySem.F.args_list_getattribute_2 _ _) ?_
    unfold Builtin.«object.__getattribute__»
    have e1 : PySem.slotArgs "__getattribute__" 1 ⟨[.ref x, .str name t], []⟩ = pure (.ref x, [.str name t]) := rfl
    have e2 : Builtin.ObjectAttr.attrName (.str name t) = pure name := rfl
    rw [e1]
    refine wpAny_bind (wpAny_pure ?_)
    dsimp only
    rw [e2]
    refine wpAny_bind (wpAny_pure (wpAny_bind (L0.at (wpAny_bind (L3.at ?_)))))
    exact wpAny_pure ⟨rfl, rfl⟩
  refine wpAny_mono key ?_ ?_
  · intro v' s' q
    obtain ⟨rfl, rfl⟩ := q
    show wpAny _ _ (handedOut v') _ _ _
    rw [handedOut_of hh]; exact wpAny_pure h
  · exact fun _ _ q => q.elim
end
end Mine
end
section
open PySem PySem.W PyProof.Rows PySem.SeqAt PySem.Spec
set_option autoImplicit false
namespace Mine
variable {c : Cx} {F : Frm} {K : Frag}
structure AccK (c : Cx) (K : Frag) : Prop where
  X : K.In c.h0
  nt : ∀ P ∈ c.tabs, K.lookup P = none
  ga : findIn K (.ref c.C) "__getattribute__" = some (some (.builtin "list.__getattribute__"))
  isl : mroIn K c.C (.type "list") = some true
  gt : findIn K (.ref c.C) "__getattr__" = some none
theorem AccK.at {al : List Acc} {g : Gh} {s : Shared} (AK : AccK c K) (W : Wd c al g s) : K.In s.heap := fun a o e => W.base a o (fun t => by rw [AK.nt a t] at e; cases e) (AK.X a o e)
noncomputable abbrev accO (C dx : Addr) (vs : List Value) (n : Nat) : Obj := ⟨.ref C, some dx, .seq vs.toArray n, #[]⟩
noncomputable abbrev accDct (hs : Int) (t u : Tok) (i : Int) (k : Nat) : Obj := dictOf [⟨hs, .str "_initial_size" t, .int i u⟩] k
theorem Wd.acc {al : List Acc} {g : Gh} {s : Shared} (W : Wd c al g s) {i : Nat} {a : Addr} (e : g.rho[i]? = some a) : ∃ A dx vs n k hs t u, al[i]? = some A ∧ s.heap.get? a = some (accO c.C dx vs n) ∧ s.heap.get? dx = some (accDct hs t u A.1 k) ∧ ¬ g.mu dx ∧ DenAll g s.heap vs (A.2.map part) ∧
    InstAt s.heap a (accO c.C dx vs n) c.C (some (accDct hs t u A.1 k)) := by
  obtain ⟨hi, _⟩ := List.getElem?_eq_some_iff.mp e
  have ha : al[i]? = some (al[i]'(by rw [← W.len]; exact hi)) := List.getElem?_eq_getElem _
  obtain ⟨dx, vs, n, k, hs, t, u, h1, h2, h3, h4⟩ := W.accs i a _ e ha
  exact ⟨_, dx, vs, n, k, hs, t, u, ha, h1, h2, h3, h4, ⟨h1, rfl, rfl, h2⟩⟩
theorem shadow_no {hs : Int} {t u : Tok} {i : Int} {k : Nat} {name : Str} (h : (("_initial_size" : Str) == name) = false) : shadowIn (some (accDct hs t u i k)) name = some false := by
  unfold shadowIn lookIn
  have : ([⟨hs, .str "_initial_size" t, .int i u⟩] : List DictEntry).find? (fun e => e.key.isStr name) = none := by
    rw [List.find?_cons_of_neg]
    · rfl
    · show ¬ (("_initial_size" : Str) == name) = true
      rw [h]; simp
  show Option.map _ (match ([⟨hs, .str "_initial_size" t, .int i u⟩] : List DictEntry).find? (fun e => e.key.isStr name) with | some e => some (some e.val) | none => _) = _
  rw [this]
  rfl
noncomputable def isAcc : D → Bool
  | .acc _ => true
  | _ => false
theorem wp_accMeth {A : Around} {s0 : Shared} {σ0 : MS} {g0 : Gh} {fn : Addr} {name : Str} {pl : Sem Bool} {i : Nat} {a : Addr} {Q : Value × List Value → Shared → Prop} {E : Value → Shared → Prop} (AK : AccK c K) (hf : findIn K (.ref c.C) name = some (some (.ref fn))) (ht : typeIn K (.ref fn) = some (.type "function"))
    (hn : (("_initial_size" : Str) == name) = false) (R0 : Rel c F σ0 g0 s0) (hr : g0.rho[i]? = some a) (h : Q (.ref fn, [.ref a]) s0) : wpAny (model c.prog c.w) A (getMethod (.ref a) name pl) Q E s0 := by
  obtain ⟨Ac, dx, vs, n, kk, hs, t, u, _, _, _, _, _, I⟩ := R0.wd.acc hr
  exact method_fnL (AK.at R0.wd) I AK.ga AK.gt hf ht (shadow_no hn) h
theorem IE_accCall {pl : Sem Bool} {fn : Addr} {k : Nat} {name : Str} {o : Expr} {apos pos : Pos} {e : Expr} {es : List Expr} {q : List D → List Acc → Option (D × List Acc)} {mo : Mx D} {m : Mx (List D)} (AK : AccK c K) (hf : findIn K (.ref c.C) name = some (some (.ref fn))) (ht : typeIn K (.ref fn) = some (.type "function"))
    (hc : IFn c (.ref fn) k q) (hk : k ≤ F.k) (ho : IE c F o mo) (hl : IL c F (e :: es) m) (hn : (("_initial_size" : Str) == name) = false := by decide +kernel)
    (hev : eval (.Call (.Attribute o name apos) (e :: es) [] pos) F.env = (do
      let ov ← eval o F.env
      standAt apos.atName
      let (f, first) ← holding [ov] (getMethod ov name pl)
      callWith pos f first (backTo pos (starEach (e :: es) F.env)) []) := by rfl)
    (he : starEach (e :: es) F.env = (false, eval e F.env) :: starEach es F.env := by rfl) :
    IE c F (.Call (.Attribute o name apos) (e :: es) [] pos) (bd mo fun d => if isAcc d then bd m fun ds => callM q (d :: ds) else fun _ => none) := by
  intro A s σ g d σ' room R hm Q E hQ
  obtain ⟨d0, σ0, q0, hm⟩ := bd_some hm
  split at hm
  · rename_i hacc
    obtain ⟨ds, σ1, q1, hm⟩ := bd_some hm
    refine MethodCall_ (pl := pl) (ho A s σ g d0 σ0 room R q0 _ _ fun v s0 g0 R0 dn0 x0 => ?_) hev
    cases dn0 with
    | @acc i a hr =>
      refine wp_accMeth AK hf ht hn R0 hr ?_
      obtain ⟨⟨a', ofn, fd, hav, hat, hofn, hdt⟩, _⟩ := id hc
      cases hav
      refine Calls.callWith_function (o := ofn) (fd := fd) ?_
      have h1 := hl A s0 σ0 g0 ds σ1 room R0 q1 pos (fun vs s' => (s'.heap.get? fn = some ofn ∧ ofn.data = .func fd) ∧ wpAny (model c.prog c.w) A (call (.ref fn) (.ref a :: vs)) Q E s') E fun vs s1 g1 R1 d1 x1 =>
        ⟨⟨R1.wd.base fn ofn hat hofn, hdt⟩, wp_callFn hc hk room R1 (.cons ((Den.acc hr).go (R0.go x1)) d1) hm (fun v s2 g2 R2 d2 x2 => hQ v s2 g2 R2 d2 ((x0.trans x1).trans x2))⟩
      rw [he] at h1 ⊢
      exact Calls.evalArgs_plain h1
    | _ => cases hacc
  · cases hm
theorem IE_accCall0 {pl : Sem Bool} {fn : Addr} {k : Nat} {name : Str} {o : Expr} {apos pos : Pos} {q : List D → List Acc → Option (D × List Acc)} {mo : Mx D} (AK : AccK c K) (hf : findIn K (.ref c.C) name = some (some (.ref fn))) (ht : typeIn K (.ref fn) = some (.type "function"))
    (hc : IFn c (.ref fn) k q) (hk : k ≤ F.k) (ho : IE c F o mo) (hn : (("_initial_size" : Str) == name) = false := by decide +kernel)
    (hev : eval (.Call (.Attribute o name apos) [] [] pos) F.env = (do
      let ov ← eval o F.env
      standAt apos.atName
      let (f, first) ← holding [ov] (getMethod ov name pl)
      callWith pos f first (backTo pos (starEach [] F.env)) []) := by rfl) :
    IE c F (.Call (.Attribute o name apos) [] [] pos) (bd mo fun d => if isAcc d then callM q [d] else fun _ => none) := by
  intro A s σ g d σ' room R hm Q E hQ
  obtain ⟨d0, σ0, q0, hm⟩ := bd_some hm
  split at hm
  · rename_i hacc
    refine MethodCall_ (pl := pl) (ho A s σ g d0 σ0 room R q0 _ _ fun v s0 g0 R0 dn0 x0 => ?_) hev
    cases dn0 with
    | @acc i a hr =>
      refine wp_accMeth AK hf ht hn R0 hr ?_
      obtain ⟨⟨a', ofn, fd, hav, hat, hofn, hdt⟩, _⟩ := id hc
      cases hav
      refine Calls.callWith_function (o := ofn) (fd := fd) ?_
      exact PySem.evalArgs_none ⟨⟨R0.wd.base fn ofn hat hofn, hdt⟩, wp_callFn hc hk room R0 (.cons (Den.acc hr) .nil) hm (fun v s2 g2 R2 d2 x2 => hQ v s2 g2 R2 d2 (x0.trans x2))⟩
    | _ => cases hacc
  · cases hm
end Mine
end
section
open PySem PySem.W PyProof.Rows PySem.SeqAt PySem.Spec
set_option autoImplicit false
namespace Mine
variable {c : Cx}
noncomputable abbrev mF (fd : FuncData) (a : Addr) (names : List Str) (k : Nat) (L : Addr) : Frm := { env := callEnv fd L a, names := names, ws := [L], k := k }
noncomputable def ISA (c : Cx) (F : Frm) (cc : Code) (st : List Stmt) (m : Mx Fl) : Prop :=
  ∀ (A : Around) (s : Shared) (σ : MS) (g : Gh) (f : Fl) (σ' : MS), Room A F.k → Rel c F σ g s → m σ = some (f, σ') →
    ∀ (Q : Flow → Shared → Prop) (E : Value → Shared → Prop), (∀ fl s' g', Rel c F σ' g' s' → FlIs g' s'.heap fl f → Ext c (F.W g) g g' s.heap s'.heap → Q fl s') →
      _root_.PySem.wpAt (model c.prog c.w) A cc (execs st F.env) Q E s
noncomputable def IEA (c : Cx) (F : Frm) (cc : Code) (e : Expr) (m : Mx D) : Prop :=
  ∀ (A : Around) (s : Shared) (σ : MS) (g : Gh) (d : D) (σ' : MS), Room A F.k → Rel c F σ g s → m σ = some (d, σ') →
    ∀ (Q : Value → Shared → Prop) (E : Value → Shared → Prop), (∀ v s' g', Rel c F σ' g' s' → Den g' s'.heap v d → Ext c (F.W g) g g' s.heap s'.heap → Q v s') →
      _root_.PySem.wpAt (model c.prog c.w) A cc (eval e F.env) Q E s
theorem ISA_of {F : Frm} {cc : Code} {st : List Stmt} {m : Mx Fl} (h : IS c F st m) : ISA c F cc st m := fun A s σ g f σ' room R hm Q E hQ => wpAt_of_wpAny (h A s σ g f σ' room R hm Q E hQ)
theorem ISA_ret {F : Frm} {cc : Code} {e : Expr} {pos : Pos} {m : Mx D} (h : IEA c F cc e m) : ISA c F cc [.Return (some e) pos] (bd m fun d => rt (.ret d)) := by
  intro A s σ g fl σ' room R hm Q E hQ
  obtain ⟨d, σ1, q1, hm⟩ := bd_some hm
  cases hm
  exact ks_wpAt_execs_cons (ks_wpAt_Return_some (h A s σ g d _ room R q1 _ _ fun v s1 g1 R1 d1 x1 => hQ _ s1 g1 R1 d1 x1))
theorem ISA_cons {F : Frm} {cc : Code} {st : Stmt} {l : List Stmt} {m k : Mx Fl} (h1 : I1 c F st m) (h2 : ISA c F cc l k) : ISA c F cc (st :: l) (sq m k) := by
  intro A s σ g fl σ' room R hm Q E hQ
  obtain ⟨f, σ1, q1, hm⟩ := bd_some hm
  refine ks_wpAt_execs_cons (wpAt_of_wpAny (h1 A s σ g f σ1 room R q1 _ _ fun fl' s1 g1 R1 d1 x1 => ?_))
  cases f with
  | next =>
    cases fl' with
    | next => exact h2 A s1 σ1 g1 fl σ' room R1 hm Q E fun f s2 g2 R2 d2 x2 => hQ f s2 g2 R2 d2 (x1.trans x2)
    | _ => exact d1.elim
  | brk =>
    cases hm
    cases fl' with
    | brk => exact hQ _ s1 g1 R1 trivial x1
    | _ => exact d1.elim
  | ret d =>
    cases hm
    cases fl' with
    | ret v => exact hQ _ s1 g1 R1 d1 x1
    | _ => exact d1.elim
theorem zip_sub : ∀ (ps : List Str) (vs : List Value), ((ps.zip vs).map (·.1)).Sublist ps
  | [], _ => by simp
  | _ :: _, [] => by simp
  | p :: ps, v :: vs => by
    show (p :: (ps.zip vs).map (·.1)).Sublist (p :: ps)
    exact (zip_sub ps vs).cons_cons p
theorem lookup_zip : ∀ (ps : List Str) (vs : List Value) (i : Nat) (x : Str) (v : Value), ps.Nodup → ps[i]? = some x → vs[i]? = some v → (ps.zip vs).reverse.lookup x = some v := by
  intro ps vs i x v hn h1 h2
  refine lookup_of_nodup ?_ ?_
  · rw [List.map_reverse]
    refine (List.reverse_perm _).nodup_iff.mpr ?_
    exact hn.sublist (zip_sub ps vs)
  · rw [List.mem_reverse]
    refine List.mem_of_getElem? (i := i) ?_
    rw [List.getElem?_zip_eq_some]
    exact ⟨h1, h2⟩
noncomputable def exP (ex : List D → Option (List D)) (p : List D → List Acc → Option (D × List Acc)) : List D → List Acc → Option (D × List Acc) := fun ds al => match ex ds with
  | some ds' => p ds' al
  | none => none
theorem exP_some {ex : List D → Option (List D)} {p : List D → List Acc → Option (D × List Acc)} {ds : List D} {al : List Acc} {r : D × List Acc} (h : exP ex p ds al = some r) : ∃ ds', ex ds = some ds' ∧ p ds' al = some r := by
  unfold exP at h
  split at h
  · rename_i ds' e; exact ⟨ds', e, h⟩
  · cases h
theorem IFn_defB {fd : FuncData} {body : List Stmt} {a : Addr} {o : Obj} {names ps : List Str} {k : Nat} {m : Mx Fl}
    (hat : a ∉ c.tabs) (ho : c.h0.get? a = some o) (hdata : o.data = .func fd) (hcd : c.h0.CodeRec fd.code fd.qualname) (hct : ∀ b, fd.code = .ref b → b ∉ c.tabs) (hbody : fd.body = .stmts body) (hgl : fd.globals = mainGlobals) (hbi : fd.builtins = builtinsNs)
    (hclo : ∀ x b, fd.closure.lookup x = some b → b < c.h0.objs.size ∧ b ∉ c.tabs ∧ ∃ v, c.h0.IsCell b v) (hcap : ∀ x y b, fd.closure.lookup x = some b → fd.closure.lookup y = some b → x = y)
    (ex : List D → Option (List D)) (hbind : ∀ (al : List Acc) (g : Gh) (s : Shared) (vs0 : List Value) (ds0 ds : List D), Wd c al g s → DenAll g s.heap vs0 ds0 → ex ds0 = some ds → ∃ vs, DenAll g s.heap vs ds ∧ BindsTo s fd ⟨vs0, []⟩ (ps.zip vs))
    (hps : names.take ps.length = ps) (nod : names.Nodup) (hkp : ∀ x ∈ ps, fd.scope.names.lookup x = some .local) (hcell : ∀ x ∈ fd.scope.names, x.2 ≠ .cell)
    (hb : ∀ L, ISA c (mF fd a names k L) (.func body (callEnv fd L a)) body m)
    (hco : fd.scope.isCoroutine = false := by rfl) (hgen : fd.scope.isGenerator = false := by rfl) (hk : fd.scope.kind = .function := by rfl) : IFn c (.ref a) (k + 1) (exP ex (fnP ps.length names.length m)) := by
  refine ⟨⟨a, o, _, rfl, hat, ho, hdata⟩, ?_⟩
  intro A s al g vs0 ds0 d al' room W hbt r0 hp Q E hQ
  obtain ⟨ds, hex, hp⟩ := exP_some hp
  obtain ⟨vs, r, hbd⟩ := hbind al g s vs0 ds0 ds W r0 hex
  unfold fnP at hp
  split at hp
  · rename_i hlen
    have hvl : vs.length = ps.length := r.length.trans hlen
    have hcd' : s.heap.CodeRec fd.code fd.qualname := by
      obtain ⟨b, ob, vb, t, e1, e2, e3⟩ := hcd
      exact ⟨b, ob, vb, t, e1, W.base b ob (hct b e1) e2, e3⟩
    have psn : ps.Nodup := by rw [← hps]; exact nod.sublist (List.take_sublist ..)
    refine wpAny_call (ks_codeAny_call_defAt (by have := room.depth; omega) (W.base a o hat ho) hdata W.nol hcd' hbody hbd hcell (fun x hx => hkp x.1 (zip_fst hx)) (fun h₁ hns hkp₁ => ?_) hco hgen hk)
    · generalize hL : s.heap.objs.size = L at hns
      generalize htk : s.toks + (ps.zip vs).length = tk
      have hws : ∀ b ∈ (mF fd a names k L).ws, s.heap.objs.size ≤ b ∧ ∃ o, h₁.get? b = some o := fun b hb => by
        simp at hb; subst hb
        obtain ⟨o, es, ep, q, _⟩ := hns
        exact ⟨Nat.le_of_eq hL, o, q⟩
      have nw : ∀ b o, s.heap.get? b = some o → b ∉ (mF fd a names k L).ws := fun b o e q => by
        have := none_of_size (hws b q).1; rw [e] at this; cases this
      obtain ⟨W1, G1⟩ := W.step (mu' := fun b => g.mu b ∨ b ∈ (mF fd a names k L).ws) (h' := h₁) (tk := tk) (fun _ => False) (fun _ q => q.elim) (fun b o _ e => hkp₁ b o e) (fun b o e q => q.resolve_right (nw b o e)) (fun b q => .inl (W.rmu b q))
        (fun b q => by
          rcases q with q | q
          · obtain ⟨h1, o, h2⟩ := W.mub b q
            exact ⟨h1, o, hkp₁ b o h2⟩
          · exact ⟨Nat.le_trans W.size (hws b q).1, (hws b q).2⟩)
      have R1 : Rel c (mF fd a names k L) ⟨ds.map some ++ List.replicate (names.length - ps.length) none, al, []⟩ { g with mu := fun b => g.mu b ∨ b ∈ (mF fd a names k L).ws } { s with heap := h₁, toks := tk } := by
        refine ⟨W1, ⟨hk, hgl, hbi, List.mem_cons_self .., hcap, nod⟩, ⟨_, hns⟩, fun i x d e1 e2 => ?_, fun x b e => ?_, fun b q => .inr q, by simp [hbt], fun b q => by simp [hbt] at q, fun i j b e => by simp [hbt] at e, fun i b l e => by simp [hbt] at e⟩
        · have hi : i < ds.length := by
            rcases Nat.lt_or_ge i ds.length with h | h
            · exact h
            · exfalso
              have q : (ds.map some ++ List.replicate (names.length - ps.length) none)[i]? = some (some d) := e2
              rw [List.getElem?_append_right (by simpa using h)] at q
              have := List.mem_of_getElem? q
              simp at this
          have q : (ds.map some ++ List.replicate (names.length - ps.length) none)[i]? = some (some d) := e2
          rw [List.getElem?_append_left (by simpa using hi), List.getElem?_map] at q
          obtain ⟨d', q1, q2⟩ := Option.map_eq_some_iff.mp q
          cases q2
          obtain ⟨v, ev, dn⟩ := r.get q1
          have epx : ps[i]? = some x := by
            have q0 : names[i]? = some x := e1
            rw [← hps, List.getElem?_take, if_pos (by omega)]; exact q0
          refine ⟨v, ?_, dn.go G1⟩
          exact .inl ⟨hkp x (List.mem_of_getElem? epx), _, hns, lookup_zip ps vs i x v psn epx ev⟩
        · obtain ⟨q1, q2, v, ob, q3, q4⟩ := hclo x b e
          exact ⟨.inr ⟨q1, q2⟩, v, ob, hkp₁ _ _ (W.base b ob q2 q3), q4⟩
      have room' : Room (A.deeper (callEnv fd L a)) k := room.deeper _
      have out : ∀ (fl : Fl) (σ : MS) (v : Value) (s' : Shared) (g' : Gh), Rel c (mF fd a names k L) σ g' s' → Ext c ((mF fd a names k L).W { g with mu := fun b => g.mu b ∨ b ∈ (mF fd a names k L).ws }) { g with mu := fun b => g.mu b ∨ b ∈ (mF fd a names k L).ws } g' h₁ s'.heap →
          (∀ gr : Gh, gr.rho = g'.rho → (∀ b, gr.mu b ↔ g'.mu b ∧ b ∉ boxesOf g' ∧ b ∉ (mF fd a names k L).ws) → Gn g' gr s'.heap s'.heap → σ.a = al' ∧ Den gr s'.heap v d) → Q v s' := by
        intro fl σ v s' g' R' x' hd
        obtain ⟨n1, n2, n3⟩ := R'.notAcc'
        obtain ⟨lr, hr, hrl⟩ := x'.rho
        obtain ⟨lb, hlb, hbl⟩ := x'.bet
        have hlb' : g'.bet = lb := by rw [hlb]; simp [hbt]
        have hrw : ∀ a ∈ g'.rho, a ∉ boxesOf g' ∧ a ∉ (mF fd a names k L).ws := fun b hb => by
          refine ⟨fun q => n3 b (mem_boxes.mp q) hb, fun q => ?_⟩
          simp at q; subst q; exact n1 hb
        have Gx : Gn g' ⟨g'.rho, [], fun b => g'.mu b ∧ b ∉ boxesOf g' ∧ b ∉ (mF fd a names k L).ws⟩ s'.heap s'.heap := ⟨fun _ _ _ _ e => e, fun _ _ _ q => q.1, fun _ _ e => e⟩
        have Wr := R'.wd.rebet (mu' := fun b => g'.mu b ∧ b ∉ boxesOf g' ∧ b ∉ (mF fd a names k L).ws) [] (fun _ q => q.1) (fun b hb => ⟨R'.wd.rmu b hb, hrw b hb⟩)
        obtain ⟨ha, hd⟩ := hd ⟨g'.rho, [], fun b => g'.mu b ∧ b ∉ boxesOf g' ∧ b ∉ (mF fd a names k L).ws⟩ rfl (fun _ => Iff.rfl) Gx
        rw [ha] at Wr
        have hW : ∀ b o, s.heap.get? b = some o → b ∉ g.rho → b ∉ (mF fd a names k L).W { g with mu := fun b => g.mu b ∨ b ∈ (mF fd a names k L).ws } := fun b o e q z => by
          unfold Frm.W at z
          rw [List.mem_append, List.mem_append] at z
          rcases z with (z | z) | z
          · exact nw b o e z
          · exact q z
          · rw [mem_boxes] at z; simp [hbt] at z
        refine hQ v s' _ Wr rfl hd ⟨fun b o q t e => x'.keep b o (hW b o e q) t (hkp₁ b o e), fun b o e => x'.there b o (hkp₁ b o e), fun b o e q => ?_, fun b o e q => ⟨x'.mu2 b o (hkp₁ b o e) (.inl q), fun z => ?_, nw b o e⟩, ⟨lr, hr, fun a q => none_back (fun b o e => ⟨o, hkp₁ b o e⟩) (hrl a q)⟩, ⟨[], by simp [hbt], by simp⟩⟩
        · exact (x'.mu1 b o (hkp₁ b o e) q.1).resolve_right (nw b o e)
        · rw [mem_boxes, hlb'] at z
          have := hbl b z
          rw [hkp₁ b o e] at this; cases this
      split at hp
      · rename_i d0 σ hm
        obtain ⟨d', hf, hpe⟩ := Option.map_eq_some_iff.mp hp
        cases hpe
        refine hb L _ _ _ _ _ _ room' R1 hm _ _ fun fl s' g' R' hfl x' => ?_
        cases fl with
        | ret v =>
          refine out (.ret d0) σ v s' g' R' x' fun gr e1 e2 Gx => ⟨rfl, ?_⟩
          refine Den.frz Gx σ.b (fun i b l q1 q2 hn => ?_) hf hfl
          obtain ⟨vs, n, h1, h2⟩ := R'.box i b l q1 q2
          exact ⟨vs, n, h1, fun q => ((e2 b).mp q).2.1 (mem_boxes.mpr (List.mem_of_getElem? q1)), h2.gn Gx hn⟩
        | _ => exact hfl.elim
      · rename_i σ hm
        cases hp
        refine hb L _ _ _ _ _ _ room' R1 hm _ _ fun fl s' g' R' hfl x' => ?_
        cases fl with
        | next => exact out .next σ .none s' g' R' x' fun gr e1 e2 Gx => ⟨rfl, .none⟩
        | _ => exact hfl.elim
      · cases hp
  · cases hp
theorem IFn_def {fd : FuncData} {body : List Stmt} {a : Addr} {o : Obj} {names ps : List Str} {k : Nat} {m : Mx Fl}
    (hat : a ∉ c.tabs) (ho : c.h0.get? a = some o) (hdata : o.data = .func fd) (hcd : c.h0.CodeRec fd.code fd.qualname) (hct : ∀ b, fd.code = .ref b → b ∉ c.tabs) (hbody : fd.body = .stmts body) (hgl : fd.globals = mainGlobals) (hbi : fd.builtins = builtinsNs)
    (hclo : ∀ x b, fd.closure.lookup x = some b → b < c.h0.objs.size ∧ b ∉ c.tabs ∧ ∃ v, c.h0.IsCell b v) (hcap : ∀ x y b, fd.closure.lookup x = some b → fd.closure.lookup y = some b → x = y)
    (hbind : ∀ vs : List Value, vs.length = ps.length → ∀ s : Shared, BindsTo s fd ⟨vs, []⟩ (ps.zip vs))
    (hps : names.take ps.length = ps) (nod : names.Nodup) (hkp : ∀ x ∈ ps, fd.scope.names.lookup x = some .local) (hcell : ∀ x ∈ fd.scope.names, x.2 ≠ .cell)
    (hb : ∀ L, ISA c (mF fd a names k L) (.func body (callEnv fd L a)) body m)
    (hco : fd.scope.isCoroutine = false := by rfl) (hgen : fd.scope.isGenerator = false := by rfl) (hk : fd.scope.kind = .function := by rfl) : IFn c (.ref a) (k + 1) (fnP ps.length names.length m) := by
  have e : exP (fun ds => if ds.length = ps.length then some ds else none) (fnP ps.length names.length m) = fnP ps.length names.length m := by
    funext ds al
    unfold exP
    dsimp only
    by_cases h : ds.length = ps.length
    · rw [if_pos h]
    · rw [if_neg h]; unfold fnP; rw [if_neg h]
  rw [← e]
  refine IFn_defB hat ho hdata hcd hct hbody hgl hbi hclo hcap _ (fun al g s vs0 ds0 ds _ r e => ?_) hps nod hkp hcell hb hco hgen hk
  split at e
  · rename_i h; cases e; exact ⟨vs0, r, hbind vs0 (r.length.trans h) s⟩
  · cases e
end Mine
end
section
open PySem PySem.W PyProof.Rows PySem.SeqAt PySem.Spec
set_option autoImplicit false
namespace Mine
variable {c : Cx} {F : Frm} {K : Frag}
theorem Wd.setAcc {al : List Acc} {g : Gh} {s : Shared} (R : Wd c al g s) {i : Nat} {a dx : Addr} {A : Acc} {vs vs' : List Value} {n n' : Nat} {l : List (Str × Str)} {h' : Heap} {tk : Nat} (hr : g.rho[i]? = some a) (hA : al[i]? = some A)
    (ho : s.heap.get? a = some (accO c.C dx vs n)) (hs : Heap.SameBut a s.heap h') (h1 : h'.get? a = some (accO c.C dx vs' n')) (h2 : DenAll g s.heap vs' (l.map part)) :
    Wd c (al.set i (A.1, l)) g { s with heap := h', toks := tk } ∧ Go g g s.heap h' := by
  have hm : g.mu a := R.rmu a (List.mem_of_getElem? hr)
  have hk : ∀ b o, b ≠ a → s.heap.get? b = some o → h'.get? b = some o := fun b o q e => (hs.2 b q).trans e
  have G : Go g g s.heap h' := ⟨fun b o q _ e => hk b o (fun z => q (z ▸ hm)) e, fun _ _ _ q => q, fun _ _ e => e, fun _ _ e => e⟩
  have low : ∀ b o, b < c.h0.objs.size → s.heap.get? b = some o → h'.get? b = some o := fun b o l e => hk b o (fun z => absurd l (Nat.not_lt.mpr (z ▸ (R.mub a hm).1))) e
  refine ⟨⟨fun b o ht e => low b o (Heap.lt_size e) (R.base b o ht e), oldk_low R.old low, fun P hP => ⟨(R.tabc P hP).1, fun o e => ?_⟩, c.tpk _ _ _ _ R.tp (fun b o q e => hk b o (fun z => q (z ▸ hm)) e) (fun _ _ _ q => q), fun b q => ⟨(R.mub b q).1, ?_⟩, R.os, R.gens, by simp [R.len], R.rmu, R.rnd, fun j b B e1 e2 => ?_⟩, G⟩
  · obtain ⟨⟨o₀, z⟩, q⟩ := R.tabc P hP
    obtain ⟨o₁, e₁⟩ := R.old.there P o₀ z
    have e₂ := low P o₁ (Heap.lt_size z) e₁
    have : o = o₁ := Option.some.inj (e.symm.trans e₂)
    subst this
    exact q _ e₁
  · by_cases hb : b = a
    · subst hb; exact ⟨_, h1⟩
    · obtain ⟨o, e⟩ := (R.mub b q).2
      exact ⟨o, hk b o hb e⟩
  · have e2' : (al.set i (A.1, l))[j]? = some B := e2
    by_cases hj : j = i
    · subst hj
      have hba : b = a := by rw [hr] at e1; cases e1; rfl
      subst hba
      rw [List.getElem?_set_self', hA] at e2'
      cases e2'
      obtain ⟨dx', vs0, n0, k, hs0, t, u, q1, q2, q3, q4⟩ := R.accs j b A hr hA
      rw [ho] at q1
      cases q1
      exact ⟨dx, vs', n', k, hs0, t, u, h1, hk dx _ (fun z => q3 (z ▸ hm)) q2, q3, h2.go G⟩
    · rw [List.getElem?_set_ne (fun z => hj z.symm)] at e2'
      exact (R.accs j b B e1 e2').go G fun o e => hk b o (fun z => by
        subst z
        exact hj (nodup_inj R.rnd e1 hr)) e
theorem Rel.setAcc {σ : MS} {g : Gh} {s : Shared} (R : Rel c F σ g s) {i : Nat} {a dx : Addr} {A : Acc} {vs vs' : List Value} {n n' : Nat} {l : List (Str × Str)} {h' : Heap} {tk : Nat} (hr : g.rho[i]? = some a) (hA : σ.a[i]? = some A)
    (ho : s.heap.get? a = some (accO c.C dx vs n)) (hs : Heap.SameBut a s.heap h') (h1 : h'.get? a = some (accO c.C dx vs' n')) (h2 : DenAll g s.heap vs' (l.map part)) :
    Rel c F { σ with a := σ.a.set i (A.1, l) } g { s with heap := h', toks := tk } ∧ Ext c (F.W g) g g s.heap h' := by
  obtain ⟨W', G⟩ := R.wd.setAcc (tk := tk) hr hA ho hs h1 h2
  have har : a ∈ g.rho := List.mem_of_getElem? hr
  have hkeep : ∀ b o, b ≠ a → s.heap.get? b = some o → h'.get? b = some o := fun b o q e => (hs.2 b q).trans e
  have th : ∀ b o', s.heap.get? b = some o' → ∃ o'', h'.get? b = some o'' := fun b o' e => by
    by_cases hb : b = a
    · subst hb; exact ⟨_, h1⟩
    · exact ⟨o', hkeep b o' hb e⟩
  obtain ⟨n1, n2, n3⟩ := R.notAcc'
  have hl : ∀ o, s.heap.get? F.env.locals = some o → h'.get? F.env.locals = some o := fun o e => hkeep _ o (fun q => n1 (q ▸ har)) e
  have hc : ∀ y b, F.env.cells.lookup y = some b → ∀ o, s.heap.get? b = some o → h'.get? b = some o := fun y b e o he => hkeep b o (fun q => n2 y b e (q ▸ har)) he
  refine ⟨⟨W', R.fo, ?_, fun j x d e1 e2 => ?_, fun x b e => ?_, R.wmu, R.blen, R.bmu, R.bnd, fun j b l e1 e2 => ?_⟩,
    fun b o' hW _ e => hkeep b o' (fun q => hW (q ▸ mem_W_rho har)) e, th, fun _ _ _ q => q, fun _ _ _ q => q, ⟨[], by simp, by simp⟩, ⟨[], by simp, by simp⟩⟩
  · obtain ⟨m, hn⟩ := R.loc
    exact ⟨m, hn.at' hl⟩
  · obtain ⟨v, V, dn⟩ := R.vars j x d e1 e2
    exact ⟨v, V.at hl hc, dn.go G⟩
  · obtain ⟨m, v, o, ho, r⟩ := R.cellx x b e
    exact ⟨m, v, o, hc x b e o ho, r⟩
  · obtain ⟨vs', n', q1, q2⟩ := R.box j b l e1 e2
    exact ⟨vs', n', hkeep b _ (fun q => n3 b (List.mem_of_getElem? e1) (q ▸ har)) q1, q2.go G⟩
section
variable {prog : Program} {w : World} {A : Around} {E : Value → Shared → Prop} {s : Shared}
theorem sub_append {a C dx : Addr} {vs : List Value} {n : Nat} {x : Value} {od : Option Obj} {Q : Value → Shared → Prop} (X : K.In s.heap) (I : InstAt s.heap a (accO C dx vs n) C od) (hsub : mroIn K C (.type "list") = some true)
    (h : ∀ h', Heap.SameBut a s.heap h' → h'.get? a = some (accO C dx (vs ++ [x]) (n + 1)) → Q .none { s with heap := h' }) (hz : vs.length ≤ 1000000) :
    wpAny (model prog w) A (call (.builtin "list.append") [.ref a, x]) Q E s := by
  refine wpAny_call (codeAny_call_builtin PySem.F.slot_list_append.plain PySem.F.entry_list_append (sub_check X I hsub (n := "append") (by decide +kernel) (.inr (by decide +kernel)) (PySem.F.args_list_append_2 _ _) ?_))
  show wpAny _ _ (updateSeq a (·.push x) >>= fun _ => ret .none) _ _ s
  refine wpAny_bind ?_
  refine wpAny_updateSeq I.at_ rfl (wpAny_pure ?_) (by simp only [List.size_toArray]; rw [sizeLine_eq]; omega)
  refine h _ (Heap.SameBut.update ..) ?_
  rw [Heap.get?_update_self _ I.at_ (by simp [Obj.mapSeq, Obj.isFreed])]
  simp [Obj.mapSeq]
end
end Mine
end
section
open PySem PySem.W PyProof.Rows PySem.SeqAt PySem.Spec
set_option autoImplicit false
namespace Mine
theorem slot_wget : Slot "wrapper_descriptor" "__get__" "wrapper_descriptor.__get__" := .of (owner := "wrapper_descriptor") (n := "__get__") (by rw [typeLookup_type, builtinLookup_eq_fast]; kernel_rfl) (by decide +kernel) (by decide +kernel) (by decide +kernel)
    (by first | exact .inl (by decide +kernel) | exact .inr (by decide +kernel)) (by rw [isSubtype_type]; kernel_rfl)
theorem entry_wget : entryFor table "wrapper_descriptor.__get__" = some Builtin.«wrapper_descriptor.__get__» := entryFor_of_tree (by kernel_rfl)
theorem args_wget (a b c : Value) : argsOk "wrapper_descriptor.__get__" ⟨[a, b, c], []⟩ := by unfold argsOk; kernel_rfl
theorem slot_mget : Slot "method_descriptor" "__get__" "method_descriptor.__get__" := .of (owner := "method_descriptor") (n := "__get__") (by rw [typeLookup_type, builtinLookup_eq_fast]; kernel_rfl) (by decide +kernel) (by decide +kernel) (by decide +kernel)
    (by first | exact .inl (by decide +kernel) | exact .inr (by decide +kernel)) (by rw [isSubtype_type]; kernel_rfl)
theorem entry_mget : entryFor table "method_descriptor.__get__" = some Builtin.«method_descriptor.__get__» := entryFor_of_tree (by kernel_rfl)
theorem args_mget (a b c : Value) : argsOk "method_descriptor.__get__" ⟨[a, b, c], []⟩ := by unfold argsOk; kernel_rfl
theorem type_list_len : typeOf (.builtin "list.__len__") = pure (.type "wrapper_descriptor") := by show builtinType _ = _; rw [builtinType_eq_fast]; kernel_rfl
theorem type_list_init : typeOf (.builtin "list.__init__") = pure (.type "wrapper_descriptor") := by show builtinType _ = _; rw [builtinType_eq_fast]; kernel_rfl
theorem type_list_pop : typeOf (.builtin "list.pop") = pure (.type "method_descriptor") := by show builtinType _ = _; rw [builtinType_eq_fast]; kernel_rfl
section
variable {prog : Program} {w : World} {M : Model} {A : Around} {E : Value → Shared → Prop} {h : Heap} {g : Array GenState} {d : Drawn} {t : Nat} {os : OsState} {K : Frag}
theorem wget_run {id : String} {x C : Addr} {ox : Obj} {od : Option Obj} {tp : Value} {Q : Fin → Shared → Prop} (X : K.In h) (I : InstAt h x ox C od) (hsub : mroIn K C (.type "list") = some true)
    (hcut : ".".intercalate (id.cutAt '.').dropLast = "list") (htp : (tp == .none) = false)
    (hq : Q (.done (.ret (.ref h.objs.size))) ⟨h.push { cls := .type "method-wrapper", data := .fields #[.builtin id, .ref x] }, g, d, t, os⟩) :
    wpAny (model prog w) A (Builtin.«wrapper_descriptor.__get__» ⟨[.builtin id, .ref x, tp], []⟩) Q E ⟨h, g, d, t, os⟩ := by
  unfold Builtin.«wrapper_descriptor.__get__»
  repeat (first
    | (with_reducible refine wpAny_loadPart I.at_ ?_)
    | (simp only [htp, Bool.false_eq_true, if_false])
    | wp_step
    | dsimp only)
  rw [I.cls, hcut]
  refine (looks_mroIn X hsub).here ?_
  simp only [Bool.not_true, Bool.false_eq_true, if_false]
  refine wpAny_pure (wpAny_bind ?_)
  unfold newFields
  exact wpAny_newObj_type (wpAny_pure hq) (by size_fits)
theorem mget_run {id : String} {x C : Addr} {ox : Obj} {od : Option Obj} {tp : Value} {Q : Fin → Shared → Prop} (X : K.In h) (I : InstAt h x ox C od) (hsub : mroIn K C (.type "list") = some true)
    (hcut : ".".intercalate (id.cutAt '.').dropLast = "list") (htp : (tp == .none) = false) (htold : Manifest.toldItsClass.contains id = false)
    (hq : Q (.done (.ret (.ref h.objs.size))) ⟨h.push { cls := .type "builtin_function_or_method", data := .fields #[.builtin id, .ref x] }, g, d, t, os⟩) :
    wpAny (model prog w) A (Builtin.«method_descriptor.__get__» ⟨[.builtin id, .ref x, tp], []⟩) Q E ⟨h, g, d, t, os⟩ := by
  unfold Builtin.«method_descriptor.__get__»
  repeat (first
    | (with_reducible refine wpAny_loadPart I.at_ ?_)
    | (simp only [htp, htold, Bool.false_eq_true, if_false])
    | wp_step
    | dsimp only)
  rw [I.cls, hcut]
  refine (looks_mroIn X hsub).here ?_
  simp only [Bool.not_true, Bool.false_eq_true, if_false]
  refine wpAny_pure (wpAny_bind ?_)
  unfold newFields
  exact wpAny_newObj_type (wpAny_pure hq) (by size_fits)
end
end Mine
end
section
open PySem PySem.W PyProof.Rows PySem.SeqAt PySem.Spec
set_option autoImplicit false
namespace Mine
section
variable {prog : Program} {w : World} {A : Around} {E : Value → Shared → Prop} {h : Heap} {g : Array GenState} {d : Drawn} {t : Nat} {os : OsState} {K : Frag}
theorem super_ga_bt {so D x C : Addr} {id dn gid : String} {l₀ l : List Value} {name : Str} {tk : Tok} {Q : Fin → Shared → Prop}
    (hso : h.get? so = some { cls := .type "super", dict := none, data := .fields #[.ref D, .ref x, .ref C], slots := #[] }) (hno : Looks (model prog w) h (opaqueClassAbove (.ref C)) none)
    (hC : Looks (model prog w) h (mroOf (.ref C)) l₀) (hl : (l₀.dropWhile (· != .ref D)).drop 1 = l) (X : K.In h)
    (hf : alongIn K name l = some (some (.builtin id))) (hty : typeOf (.builtin id) = pure (.type dn)) (hget : typeLookup (.type dn) "__get__" = pure (some (.builtin gid))) (hxC : x ≠ C) (hn : (name == ("__class__" : Str)) = false)
    (hq : ∀ (A' : Around) (E' : Value → Shared → Prop), wpAny (model prog w) A' (call (.builtin gid) [.builtin id, .ref x, .ref C]) (fun v s' => Q (.done (.ret v)) s') E' ⟨h, g, d, t, os⟩) :
    wpAny (model prog w) A (Builtin.«super.__getattribute__» ⟨[.ref so, .str name tk], []⟩) Q E ⟨h, g, d, t, os⟩ := by
  have hne : (Value.ref x == Value.ref C) = false := by simp [hxC]
  have hdt : ({ cls := .type "super", dict := none, data := .fields #[.ref D, .ref x, .ref C], slots := #[] } : Obj).data = .fields #[.ref D, .ref x, .ref C] := rfl
  have f0 : (#[.ref D, .ref x, .ref C] : Array Value)[0]? = some (.ref D) := rfl
  have f1 : (#[.ref D, .ref x, .ref C] : Array Value)[1]? = some (.ref x) := rfl
  have f2 : (#[.ref D, .ref x, .ref C] : Array Value)[2]? = some (.ref C) := rfl
  unfold Builtin.«super.__getattribute__»
  repeat (first
    | (with_reducible refine wpAny_field hso hdt f0 ?_) | (with_reducible refine wpAny_field hso hdt f1 ?_) | (with_reducible refine wpAny_field hso hdt f2 ?_)
    | (with_reducible refine ks_wpAny_notOpaque hno ?_)
    | (with_reducible refine Looks.at hC ?_; rw [hl])
    | (refine ks_forIn_along X (fun _ _ => rfl) rfl ?_ hf)
    | (with_reducible refine wpAny_of_eq hty ?_)
    | (with_reducible refine wpAny_of_eq hget ?_)
    | (with_reducible refine wpAny_mono (hq _ _) (fun v s' hv => ?_) fun _ _ z => z)
    | (simp only [hn, hne, Bool.or_false, Bool.false_eq_true, if_false])
    | wp_step
    | dsimp only)
  all_goals first | exact hv | trace_state
theorem super_meth {so D x C q : Addr} {id dn gid : String} {l₀ l : List Value} {name : Str} {pl : Sem Bool} {h' : Heap} {Q : Value × List Value → Shared → Prop}
    (hso : h.get? so = some { cls := .type "super", dict := none, data := .fields #[.ref D, .ref x, .ref C], slots := #[] }) (hno : Looks (model prog w) h (opaqueClassAbove (.ref C)) none)
    (hC : Looks (model prog w) h (mroOf (.ref C)) l₀) (hl : (l₀.dropWhile (· != .ref D)).drop 1 = l) (X : K.In h)
    (hf : alongIn K name l = some (some (.builtin id))) (hty : typeOf (.builtin id) = pure (.type dn)) (hget : typeLookup (.type dn) "__get__" = pure (some (.builtin gid))) (hxC : x ≠ C) (hn : (name == ("__class__" : Str)) = false)
    (hcall : ∀ (A' : Around) (E' : Value → Shared → Prop) (Q' : Value → Shared → Prop), Q' (.ref q) ⟨h', g, d, t + 1, os⟩ → wpAny (model prog w) A' (call (.builtin gid) [.builtin id, .ref x, .ref C]) Q' E' ⟨h, g, d, t + 1, os⟩)
    (hq : Q (.ref q, []) ⟨h', g, d, t + 1, os⟩) :
    wpAny (model prog w) A (getMethod (.ref so) name pl) Q E ⟨h, g, d, t, os⟩ := by
  have hlk := PySem.F.ks_slot_super_ga.lookup
  have hcan := PySem.F.ks_canon_super_ga
  have hT : ∀ t', (⟨h, g, d, t', os⟩ : Shared).TypeIs (.ref so) "super" := fun _ => ⟨_, hso, rfl⟩
  unfold getMethod
  refine wpAny_bind (wpAny_specialOf (hT _) hlk ?_)
  show wpAny _ _ (if (Manifest.canonical "super.__getattribute__" != "object.__getattribute__") = true then _ else _) _ _ _
  rw [if_pos hcan]
  unfold getAttr getAttrBy
  refine wpAny_bind (wpAny_bind (wpAny_mkText (wpAny_holding (wpAny_bind (wpAny_typeOf (hT _) (wpAny_bind (wpAny_of_eq hlk ?_)))))))
  show wpAny _ _ (getAttrByItsOwn (.ref so) (.str name t) (.type "super") (.builtin "super.__getattribute__") true false) _ _ _
  unfold getAttrByItsOwn hookBefore callGetattribute boundAndCalled
  refine wpAny_bind (wpAny_of_eq (show (if onTheHeap (.type "super") then typeLookup (.type "super") "__getattr__" else pure none) = pure none from rfl) ?_)
  refine wpAny_bind (wpAny_attempt (wpAny_holding ?_))
  show wpAny _ _ (bindSpecial (.builtin "super.__getattribute__") (.ref so) >>= _) _ _ _
  refine wpAny_bind (wpAny_of_eq (PySem.F.ks_slot_super_ga.bind _) ?_)
  refine wpAny_mono (Q := fun v s' => v = .ref q ∧ s' = ⟨h', g, d, t + 1, os⟩) (E := fun _ _ => False)
    (wpAny_call_entry PySem.F.ks_slot_super_ga (hT _) PySem.F.ks_entry_super_ga (super_ga_bt hso hno hC hl X hf hty hget hxC hn fun A' E' => hcall A' E' _ ⟨_, rfl, rfl, rfl⟩) (PySem.F.ks_gaArgs_super _ _)) (fun v s' hv => ?_) fun _ _ z => z.elim
  obtain ⟨rfl, rfl⟩ := hv
  exact wpAny_pure (wpAny_pure hq)
theorem wget_call {id : String} {x C : Addr} {ox : Obj} {od : Option Obj} (X : K.In h) (I : InstAt h x ox C od) (hsub : mroIn K C (.type "list") = some true) (hcut : ".".intercalate (id.cutAt '.').dropLast = "list") (hty : typeOf (.builtin id) = pure (.type "wrapper_descriptor"))
    (A' : Around) (E' : Value → Shared → Prop) (Q' : Value → Shared → Prop) (hq : Q' (.ref h.objs.size) ⟨h.push { cls := .type "method-wrapper", data := .fields #[.builtin id, .ref x] }, g, d, t, os⟩) :
    wpAny (model prog w) A' (call (.builtin "wrapper_descriptor.__get__") [.builtin id, .ref x, .ref C]) Q' E' ⟨h, g, d, t, os⟩ := by
  refine wpAny_call_entry slot_wget ?_ entry_wget (wget_run X I hsub hcut rfl ⟨_, rfl, hq⟩) (args_wget _ _ _)
  exact hty
theorem mget_call {id : String} {x C : Addr} {ox : Obj} {od : Option Obj} (X : K.In h) (I : InstAt h x ox C od) (hsub : mroIn K C (.type "list") = some true) (hcut : ".".intercalate (id.cutAt '.').dropLast = "list") (hty : typeOf (.builtin id) = pure (.type "method_descriptor")) (htold : Manifest.toldItsClass.contains id = false)
    (A' : Around) (E' : Value → Shared → Prop) (Q' : Value → Shared → Prop) (hq : Q' (.ref h.objs.size) ⟨h.push { cls := .type "builtin_function_or_method", data := .fields #[.builtin id, .ref x] }, g, d, t, os⟩) :
    wpAny (model prog w) A' (call (.builtin "method_descriptor.__get__") [.builtin id, .ref x, .ref C]) Q' E' ⟨h, g, d, t, os⟩ := by
  refine wpAny_call_entry slot_mget ?_ entry_mget (mget_run X I hsub hcut rfl htold ⟨_, rfl, hq⟩) (args_mget _ _ _)
  exact hty
end
end Mine
end
section
open PySem PySem.W PyProof.Rows PySem.SeqAt PySem.Spec
set_option autoImplicit false
namespace Mine
section
variable {prog : Program} {w : World} {A : Around} {E : Value → Shared → Prop} {s : Shared} {K : Frag}
theorem bound_call {q : Addr} {bt id : String} {x : Value} {b : Builtin} {Q : Value → Shared → Prop} (hb : s.heap.get? q = some { cls := .type bt, data := .fields #[.builtin id, x] }) (hbt : bt = "method-wrapper" ∨ bt = "builtin_function_or_method") (hent : entryFor table id = some b) (hpl : plainId id = true)
    (hck : ∀ (A' : Around) (E' : Value → Shared → Prop) (Q' : Unit → Shared → Prop), Q' () s → wpAny (model prog w) A' (checkBoundCall id ⟨[x], []⟩) Q' E' s)
    (h : ∀ (A' : Around), A'.handled = A.handled → wpAny (model prog w) A' (b ⟨[x], []⟩) (fun fin s' => ∃ v, fin = .done (.ret v) ∧ Q v s') E s) :
    wpAny (model prog w) A (call (.ref q) []) Q E s := by
  refine wpAny_call (codeAny_of_tree ?_)
  show wpAny _ A.in1 (callAny (.ref q) ⟨[], []⟩) _ _ _
  unfold callAny
  refine wpAny_bind (wpAny_load hb ?_)
  have key : codeAny (model prog w) A (.builtin id ⟨[x], []⟩) (fun r s' => match r with | .ok (.ret v) => Q v s' | .ok _ => False | .error e => E e s') s := by
    refine codeAny_builtin hent ?_
    rw [Around.under_plainId hpl _]
    refine wpAny_mono (h _ rfl) (fun fin s' hf => ?_) fun _ _ e => e
    obtain ⟨v, rfl, hv⟩ := hf
    exact hv
  have fin : wpAny (model prog w) A.in1 (do checkBoundCall id ⟨[x], []⟩; again (.builtin id ⟨[x], []⟩)) (fun fin s' => match fin with | .done f => (match (Except.ok f : Result) with | .ok (.ret v) => Q v s' | .ok _ => False | .error e => E e s') | .again c' => c'.quiet = true ∧ codeAny (model prog w) A c' (fun r s' => match r with | .ok (.ret v) => Q v s' | .ok _ => False | .error e => E e s') s') E s :=
    wpAny_bind (hck _ _ _ (wpAny_pure ⟨plainId_quiet hpl _, key⟩))
  rcases hbt with rfl | rfl
  · exact fin
  · exact fin
theorem callWith_bound0 {pos : Pos} {u : Addr} {bt : String} {vs : Array Value} {Q : Value → Shared → Prop} (hb : s.heap.get? u = some { cls := .type bt, data := .fields vs }) (hbt : bt = "method-wrapper" ∨ bt = "builtin_function_or_method")
    (h : wpAny (model prog w) A (call (.ref u) []) Q E s) : wpAny (model prog w) A (callWith pos (.ref u) [] [] []) Q E s := by
  unfold callWith
  refine wpAny_bind (wpAny_holding (PySem.evalArgs_none (wpAny_bind (wpAny_standAt ?_))))
  simp only [List.any_nil, Bool.or_false]
  refine wpAny_bind (m := keeperOf (.ref u)) ?_
  unfold keeperOf
  refine wpAny_bind (wpAny_load hb ?_)
  have tail : wpAny (model prog w) A (call (.ref u) [] >>= fun r => holding [r] point >>= fun _ => pure r) Q E s := wpAny_bind (wpAny_mono h (fun r s₂ hr => wpAny_bind (wpAny_holding (wpAny_point (wpAny_pure hr)))) fun _ _ x => x)
  rcases hbt with rfl | rfl
  · exact wpAny_pure tail
  · exact wpAny_pure tail
theorem check_len (x : Value) : checkBoundCall "list.__len__" ⟨[x], []⟩ = pure () := by kernel_rfl
theorem len_body {a : Addr} {ox : Obj} {vs : List Value} {n : Nat} {Q : Fin → Shared → Prop} (ho : s.heap.get? a = some ox) (hd : ox.data = .seq vs.toArray n) (h : Q (.done (.ret (.int vs.length s.toks))) { s with toks := s.toks + 1 }) :
    wpAny (model prog w) A (Builtin.«list.__len__» ⟨[.ref a], []⟩) Q E s := by
  show wpAny _ _ (seqSize a >>= fun n => retInt n) _ _ s
  refine wpAny_bind ?_
  unfold seqSize
  refine wpAny_bind (wpAny_loadPart ho ?_)
  rw [hd]
  refine wpAny_pure ?_
  unfold retInt
  refine wpAny_bind (wpAny_mkInt (wpAny_pure ?_))
  simpa using h
theorem check_init (x : Value) : checkBoundCall "list.__init__" ⟨[x], []⟩ = pure () := by kernel_rfl
theorem kind_pop : builtinKind "list.pop" = some .method := by decide +kernel
theorem sig_pop0 (x : Value) : (match Manifest.signature? "list.pop" with | some sig => Bind.checkArgs "list.pop" { sig with full := toString "_Accumulator" ++ toString "." ++ toString (Bind.lastOf "list.pop") } ⟨[x], []⟩ | none => pure ()) = pure () := by
  rw [signature?_of (id := "list.pop") (n := ['p', 'o', 'p']) (o := ['t', 's', 'i', 'l']) (by kernel_rfl) PySem.F.owner_list]; kernel_rfl
theorem vargs_pop : Manifest.varargsMethods.contains "list.pop" = false := by decide +kernel
theorem check_pop {a C : Addr} {ox : Obj} {od : Option Obj} {cd : ClassData} (X : K.In s.heap) (I : InstAt s.heap a ox C od) (hmod : mroIn K C (.type "module") = some false) (hc : clsIn K C = some cd) (ht : typeIn K (.ref C) = some (.type "type")) (hqn : cd.qualname.toString = "_Accumulator")
    (A' : Around) (E' : Value → Shared → Prop) (Q' : Unit → Shared → Prop) (hq : Q' () s) : wpAny (model prog w) A' (checkBoundCall "list.pop" ⟨[.ref a], []⟩) Q' E' s := by
  unfold checkBoundCall
  cases hsig : Manifest.signature? "list.pop" with
  | none => exact wpAny_pure hq
  | some sig =>
    have fin : Bind.checkArgs "list.pop" { sig with full := toString "_Accumulator" ++ toString "." ++ toString (Bind.lastOf "list.pop") } ⟨[.ref a], []⟩ = pure () := by
      have := sig_pop0 (.ref a)
      rw [hsig] at this
      exact this
    rw [kind_pop]
    dsimp only
    rw [if_neg (by decide)]
    refine wpAny_bind ?_
    unfold isInstance
    refine wpAny_bind (I.type.here ((looks_mroIn X hmod).here ?_))
    rw [vargs_pop, if_neg (by decide)]
    refine wpAny_bind (wpAny_mono (Q := fun b s' => b = false ∧ s' = s) (E := E') ?_ (fun b s' hb => ?_) fun _ _ e => e)
    · obtain ⟨hh, g, d, t, os⟩ := s
      refine ks_wpAny_isType_inst I.at_ (fun c e => ?_) ⟨rfl, rfl⟩
      have := I.no
      unfold notCls at this
      rw [e] at this
      exact Bool.noConfusion this
    · obtain ⟨rfl, rfl⟩ := hb
      refine wpAny_bind (I.type.here ?_)
      refine wpAny_bind ((looks_clsIn X hc).here (wpAny_bind ((looks_typeIn X ht).here ?_)))
      rw [hqn, if_pos (by decide), fin]
      exact wpAny_pure hq
theorem erase_last : ∀ (vs : List Value) (v : Value), (vs ++ [v]).eraseIdx vs.length = vs
  | [], _ => rfl
  | a :: vs, v => by show a :: (vs ++ [v]).eraseIdx vs.length = _; rw [erase_last vs v]
theorem pop_body {a : Addr} {ox : Obj} {vs : List Value} {v : Value} {n : Nat} {Q : Fin → Shared → Prop} (ho : s.heap.get? a = some ox) (hd : ox.data = .seq (vs ++ [v]).toArray n) (hf : ∀ d, ({ ox with data := .seq vs.toArray d } : Obj).isFreed = false) (hz : vs.length < 1000000)
    (h : ∀ h', Heap.SameBut a s.heap h' → h'.get? a = some { ox with data := .seq vs.toArray (n + 1) } → Q (.done (.ret v)) { s with heap := h' }) :
    wpAny (model prog w) A (Builtin.«list.pop» ⟨[.ref a], []⟩) Q E s := by
  have hl : (vs ++ [v]).toArray.size = vs.length + 1 := by simp
  have hea : (vs ++ [v]).toArray.eraseIdxIfInBounds vs.length = vs.toArray := by
    unfold Array.eraseIdxIfInBounds
    rw [dif_pos (by simp)]
    apply Array.ext'
    simp
    exact erase_last vs v
  have hidx : (seqIndex? (-1) (vs ++ [v]).toArray.size).bind (fun k => (vs ++ [v]).toArray[k]?.map (k, ·)) = some (vs.length, v) := by
    rw [hl]
    have : seqIndex? (-1) (vs.length + 1) = some vs.length := by
      unfold seqIndex?
      have e : (-1 + ((vs.length + 1 : Nat) : Int)) = (vs.length : Int) := by omega
      simp
      omega
    rw [this]
    simp
  show wpAny _ _ (Builtin.List.listItems (.ref a) >>= _) _ _ s
  refine wpAny_bind ?_
  unfold Builtin.List.listItems
  refine wpAny_bind (wpAny_seqItems ho hd (wpAny_pure ?_))
  rw [if_neg (by simp)]
  rw [hidx]
  dsimp only
  show wpAny _ _ (updateSeq a (·.eraseIdxIfInBounds vs.length) >>= fun _ => ret v) _ _ s
  refine wpAny_bind (wpAny_updateSeq ho hd (wpAny_pure (h _ (Heap.SameBut.update ..) ?_)) (by rw [hl, sizeLine_eq]; omega) (by
    rw [hea, sizeLine_eq]; simp; omega))
  obtain ⟨c0, d0, dt, sl⟩ := ox
  have hd' : dt = .seq (vs ++ [v]).toArray n := hd
  subst hd'
  have he : Obj.mapSeq (·.eraseIdxIfInBounds vs.length) ⟨c0, d0, .seq (vs ++ [v]).toArray n, sl⟩ = ⟨c0, d0, .seq vs.toArray (n + 1), sl⟩ := by
    unfold Obj.mapSeq
    simp [hea]
  rw [Heap.get?_update_self _ ho (by rw [he]; exact hf _), he]
end
end Mine
end
section
open PySem PySem.W PyProof.Rows PySem.SeqAt PySem.Spec
set_option autoImplicit false
namespace Mine
variable {c : Cx} {K : Frag}
structure SupOk (c : Cx) (K : Frag) (fd : FuncData) (f cell code : Addr) (cd : ClassData) : Prop where
  fn : ∃ oc od sl, K.lookup f = some ⟨oc, od, .func fd, sl⟩
  first : ∃ ar, (fd.params.posonlyargs ++ fd.params.args).head? = some ar ∧ ar.arg = ("self" : Str)
  cod : fd.code = .ref code
  codAt : ∃ oc od vs sl tf, K.lookup code = some ⟨oc, od, .fields vs, sl⟩ ∧ vs[2]? = some (.str c.prog.main.file tf)
  clo : fd.closure = [(("__class__" : Str), cell)]
  cellAt : ∃ oc od sl, K.lookup cell = some ⟨oc, od, .cell (some (.ref c.C)), sl⟩
  cls : clsIn K c.C = some cd
  mro : mroIn K c.C (.ref c.C) = some true
  lst : mroIn K c.C (.type "list") = some true
  ks : fd.scope.names.lookup ("super" : Str) = some .globalImplicit
  kc : fd.scope.names.lookup ("__class__" : Str) = some .free
  ka : fd.scope.names.lookup ("self" : Str) = some .local
  kind : fd.scope.kind = .function
  top : (c.prog.main.scope.names.lookup ("super" : Str)).isSome = false
  opq : nsIn K cStatics "thirdparty.any" = some none
  mg : c.mg "super" = none
  mb : c.mb "super" = some (.type "super")
  gl : fd.globals = mainGlobals
  bi : fd.builtins = builtinsNs
theorem clsIn_at {K : Frag} {h : Heap} {C : Addr} {cd : ClassData} (X : K.In h) (e : clsIn K C = some cd) : ∃ o, h.get? C = some o ∧ o.data = .cls cd := by
  unfold clsIn at e
  split at e
  · rename_i c d cd' sl ho
    cases e
    exact ⟨_, X _ _ ho, rfl⟩
  · cases e
theorem wp_superCall0 {pl : Sem Bool} {fd : FuncData} {f cell code L : Addr} {cd : ClassData} {A : Around} {s : Shared} {a : Addr} {ox : Obj} {od0 : Option Obj} {mm : Str → Option Value} {body : List Stmt} {attr : Str} {p0 p1 apos pos : Pos} {id dn gid bt : String} {Q : Value → Shared → Prop} {E : Value → Shared → Prop}
    (S : SupOk c K fd f cell code cd) (X : K.In s.heap) (gns : s.heap.Ns mainGlobals c.mg) (bns : s.heap.Ns builtinsNs c.mb) (I : InstAt s.heap a ox c.C od0) (hn : s.heap.Ns L mm) (ev : mm ("self" : Str) = some (.ref a))
    (hat : (attr == ("__class__" : Str)) = false) (hf : ks_superIn K c.C c.C attr = some (some (.builtin id))) (hty : typeOf (.builtin id) = pure (.type dn)) (hget : typeLookup (.type dn) "__get__" = pure (some (.builtin gid)))
    (hcall : ∀ (h : Heap) (gg : Array GenState) (d : Drawn) (t : Nat) (os : OsState) (ox : Obj) (od : Option Obj), K.In h → InstAt h a ox c.C od → ∀ (A' : Around) (E' : Value → Shared → Prop) (Q' : Value → Shared → Prop), Q' (.ref h.objs.size) ⟨h.push { cls := .type bt, data := .fields #[.builtin id, .ref a] }, gg, d, t, os⟩ → wpAny (model c.prog c.w) A' (call (.builtin gid) [.builtin id, .ref a, .ref c.C]) Q' E' ⟨h, gg, d, t, os⟩)
    (hbt : bt = "method-wrapper" ∨ bt = "builtin_function_or_method")
    (h : ∀ (h2 : Heap) (tk : Nat) (q : Addr), (∀ b o, s.heap.get? b = some o → h2.get? b = some o) → h2.get? q = some { cls := .type bt, data := .fields #[.builtin id, .ref a] } → wpAny (model c.prog c.w) A (call (.ref q) []) Q E { s with heap := h2, toks := tk })
    (he : eval (.Call (.Attribute (.Call (.Name "super" p0) [] [] p1) attr apos) [] [] pos) (callEnv fd L f) = (do
      let ov ← attributeBase (.Call (.Name "super" p0) [] [] p1) attr (callEnv fd L f) (eval (.Call (.Name "super" p0) [] [] p1) (callEnv fd L f))
      standAt apos.atName
      let (fn, first) ← holding [ov] (getMethod ov attr pl)
      callWith pos fn first (backTo pos (starEach [] (callEnv fd L f))) []) := by rfl) :
    _root_.PySem.wpAt (model c.prog c.w) A (.func body (callEnv fd L f)) (eval (.Call (.Attribute (.Call (.Name "super" p0) [] [] p1) attr apos) [] [] pos) (callEnv fd L f)) Q E s := by
  obtain ⟨oc1, od1, sl1, hfn⟩ := S.fn
  obtain ⟨ar, har, harg⟩ := S.first
  obtain ⟨oc2, od2, vs2, sl2, tf, hcode, hvs⟩ := S.codAt
  obtain ⟨oc3, od3, sl3, hcell⟩ := S.cellAt
  obtain ⟨oC, hC1, hC2⟩ := clsIn_at X S.cls
  have hcloL : (callEnv fd L f).cells.lookup ("__class__" : Str) = some cell := by
    show fd.closure.lookup ("__class__" : Str) = _
    rw [S.clo]; rfl
  refine ks_wpAt_MethodCall (pl := pl) ?_ he
  refine ks_wpAt_super_base (env := callEnv fd L f) S.ks S.kc hat rfl (X _ _ hfn) rfl har S.cod (X _ _ hcode) rfl hvs (by simp) S.top ?_
  refine ks_loadName_global S.kind S.ks (Calls.loadGlobal_builtin (env := callEnv fd L f) (by show s.heap.Ns fd.globals _; rw [S.gl]; exact gns) S.mg (by show s.heap.Ns fd.builtins _; rw [S.bi]; exact bns) S.mb ⟨rfl, ?_⟩)
  refine wpAny_loadName_free S.kind S.kc hcloL ⟨_, X _ _ hcell, rfl⟩ ?_
  rw [harg]
  refine wpAny_loadName_local S.kind S.ka hn ev ?_
  have hnc : ∀ cl, ox.data ≠ .cls cl := fun cl e => by
    have := I.no
    unfold notCls at this
    rw [e] at this
    exact Bool.noConfusion this
  have hxC : a ≠ c.C := ks_ne X I S.cls
  obtain ⟨hh, gg, d, tk, os⟩ := s
  refine ks_wpAny_isType_cls hC1 hC2 ⟨rfl, ?_⟩
  refine ks_wpAny_call_super hC1 hC2 I.at_ I.cls hnc (looks_mroIn X S.mro) (fun h' e kp => ?_)
  have X' : K.In h' := fun b o z => kp _ _ (X b o z)
  have I' : InstAt h' a ox c.C od0 := by
    refine ⟨kp _ _ I.at_, I.cls, I.no, ?_⟩
    have hd := I.dict
    cases e1 : ox.dict with
    | none => rw [e1] at hd; cases od0 with | none => trivial | some o => exact hd.elim
    | some dx => rw [e1] at hd; cases od0 with | none => exact hd.elim | some o => exact kp _ _ hd
  unfold ks_superIn at hf
  rw [S.cls] at hf
  refine super_meth (h' := h'.push { cls := .type bt, data := .fields #[.builtin id, .ref a] }) (q := h'.objs.size) e (looks_opaque X' S.opq) (l₀ := cd.mro) ?_ rfl X' hf hty hget hxC hat (fun A' E' Q' hq => hcall h' gg d (tk + 1) os _ _ X' I' A' E' Q' hq) ?_
  · exact fun A Q E s k q => wpAny_bind ((looks_clsIn X' S.cls) A _ E s k (wpAny_pure q))
  · have hq : (h'.push { cls := .type bt, data := .fields #[.builtin id, .ref a] }).get? h'.objs.size = some { cls := .type bt, data := .fields #[.builtin id, .ref a] } := Heap.get?_push_size _ rfl
    exact callWith_bound0 hq hbt (h _ (tk + 1) h'.objs.size (fun b o z => Heap.get?_push_of_some _ (kp b o z)) hq)
theorem wp_superCall {pl : Sem Bool} {fd : FuncData} {f cell code L : Addr} {cd : ClassData} {names : List Str} {k : Nat} {A : Around} {s : Shared} {σ : MS} {g : Gh} {i : Nat} {a : Addr} {body : List Stmt} {attr : Str} {p0 p1 apos pos : Pos} {id dn gid bt : String} {Q : Value → Shared → Prop} {E : Value → Shared → Prop}
    (AK : AccK c K) (S : SupOk c K fd f cell code cd) (R : Rel c (mF fd f names k L) σ g s) (h0 : names[0]? = some ("self" : Str)) (hv : σ.v[0]? = some (some (.acc i))) (hr : g.rho[i]? = some a)
    (hat : (attr == ("__class__" : Str)) = false) (hf : ks_superIn K c.C c.C attr = some (some (.builtin id))) (hty : typeOf (.builtin id) = pure (.type dn)) (hget : typeLookup (.type dn) "__get__" = pure (some (.builtin gid)))
    (hcall : ∀ (h : Heap) (gg : Array GenState) (d : Drawn) (t : Nat) (os : OsState) (ox : Obj) (od : Option Obj), K.In h → InstAt h a ox c.C od → ∀ (A' : Around) (E' : Value → Shared → Prop) (Q' : Value → Shared → Prop), Q' (.ref h.objs.size) ⟨h.push { cls := .type bt, data := .fields #[.builtin id, .ref a] }, gg, d, t, os⟩ → wpAny (model c.prog c.w) A' (call (.builtin gid) [.builtin id, .ref a, .ref c.C]) Q' E' ⟨h, gg, d, t, os⟩)
    (hbt : bt = "method-wrapper" ∨ bt = "builtin_function_or_method")
    (h : ∀ (h2 : Heap) (tk : Nat) (q : Addr), (∀ b o, s.heap.get? b = some o → h2.get? b = some o) → h2.get? q = some { cls := .type bt, data := .fields #[.builtin id, .ref a] } → wpAny (model c.prog c.w) A (call (.ref q) []) Q E { s with heap := h2, toks := tk })
    (he : eval (.Call (.Attribute (.Call (.Name "super" p0) [] [] p1) attr apos) [] [] pos) (callEnv fd L f) = (do
      let ov ← attributeBase (.Call (.Name "super" p0) [] [] p1) attr (callEnv fd L f) (eval (.Call (.Name "super" p0) [] [] p1) (callEnv fd L f))
      standAt apos.atName
      let (fn, first) ← holding [ov] (getMethod ov attr pl)
      callWith pos fn first (backTo pos (starEach [] (callEnv fd L f))) []) := by rfl) :
    _root_.PySem.wpAt (model c.prog c.w) A (.func body (callEnv fd L f)) (eval (.Call (.Attribute (.Call (.Name "super" p0) [] [] p1) attr apos) [] [] pos) (callEnv fd L f)) Q E s := by
  obtain ⟨Ac, dx, vs, n, kk, hs, t, u, _, ho, _, _, _, I⟩ := R.wd.acc hr
  have hself : ∃ mm, s.heap.Ns L mm ∧ mm ("self" : Str) = some (.ref a) := by
    obtain ⟨v, V, dn⟩ := R.vars 0 "self" (.acc i) h0 hv
    have hva : v = .ref a := by
      cases dn with
      | acc q => rw [hr] at q; cases q; rfl
    subst hva
    rcases V with ⟨_, mm, hn, ev⟩ | ⟨kk, _⟩
    · exact ⟨mm, hn, ev⟩
    · have hk : (callEnv fd L f).kindOf "self" = some .local := S.ka
      rcases kk with kk | kk <;> (rw [hk] at kk; cases kk)
  obtain ⟨mm, hn, ev⟩ := hself
  exact wp_superCall0 S (AK.at R.wd) R.wd.gns R.wd.bns I hn ev hat hf hty hget hcall hbt h he
end Mine
end
section
open PySem PySem.W PyProof.Rows PySem.SeqAt PySem.Spec
set_option autoImplicit false
namespace Mine
variable {c : Cx} {K : Frag} {fd : FuncData} {f cell code L : Addr} {cd : ClassData} {names : List Str} {k : Nat} {body : List Stmt} {p0 p1 apos pos : Pos}
noncomputable def accAt0 (σ : MS) : Option (Nat × Acc) := match σ.v[0]? with
  | some (some (D.acc i)) => (σ.a[i]?).map fun A => (i, A)
  | _ => none
theorem accAt0_some {σ : MS} {i : Nat} {A : Acc} (h : accAt0 σ = some (i, A)) : σ.v[0]? = some (some (.acc i)) ∧ σ.a[i]? = some A := by
  unfold accAt0 at h
  split at h
  · rename_i j e
    obtain ⟨B, e1, e2⟩ := Option.map_eq_some_iff.mp h
    cases e2
    exact ⟨e, e1⟩
  · cases h
theorem Rel.slot0 {σ : MS} {g : Gh} {s : Shared} {F : Frm} {i : Nat} (R : Rel c F σ g s) (h0 : F.names[0]? = some ("self" : Str)) (hv : σ.v[0]? = some (some (.acc i))) : ∃ a, g.rho[i]? = some a := by
  obtain ⟨v, _, dn⟩ := R.vars 0 _ _ h0 hv
  cases dn with
  | acc q => exact ⟨_, q⟩
theorem cut_len : ".".intercalate ("list.__len__".cutAt '.').dropLast = "list" := by decide +kernel
theorem cut_pop : ".".intercalate ("list.pop".cutAt '.').dropLast = "list" := by decide +kernel
theorem told_pop : Manifest.toldItsClass.contains "list.pop" = false := by decide +kernel
noncomputable def slenM : Mx D := fun σ => match accAt0 σ with
  | some (_, A) => some (.int A.2.length, σ)
  | none => none
noncomputable def spopM : Mx D := fun σ => match accAt0 σ with
  | some (i, A) => (match A.2.getLast? with
    | some p => if A.2.length ≤ 1000000 then some (part p, { σ with a := σ.a.set i (A.1, A.2.dropLast) }) else none
    | none => none)
  | none => none
theorem last_split {α : Type} {l : List α} {p : α} (h : l.getLast? = some p) : l = l.dropLast ++ [p] := by
  obtain ⟨ys, rfl⟩ := List.getLast?_eq_some_iff.mp h
  simp
theorem IEA_slen {pl : Sem Bool} (AK : AccK c K) (S : SupOk c K fd f cell code cd) (h0 : names[0]? = some ("self" : Str)) (hf : ks_superIn K c.C c.C "__len__" = some (some (.builtin "list.__len__")))
    (hev : eval (.Call (.Attribute (.Call (.Name "super" p0) [] [] p1) "__len__" apos) [] [] pos) (callEnv fd L f) = (do
      let ov ← attributeBase (.Call (.Name "super" p0) [] [] p1) "__len__" (callEnv fd L f) (eval (.Call (.Name "super" p0) [] [] p1) (callEnv fd L f))
      standAt apos.atName
      let (fn, first) ← holding [ov] (getMethod ov "__len__" pl)
      callWith pos fn first (backTo pos (starEach [] (callEnv fd L f))) []) := by rfl) :
    IEA c (mF fd f names k L) (.func body (callEnv fd L f)) (.Call (.Attribute (.Call (.Name "super" p0) [] [] p1) "__len__" apos) [] [] pos) slenM := by
  intro A s σ g d σ' room R hm Q E hQ
  unfold slenM at hm
  split at hm
  · rename_i i Ac e
    cases hm
    obtain ⟨e1, e2⟩ := accAt0_some e
    obtain ⟨a, hr⟩ := R.slot0 h0 e1
    refine wp_superCall AK S R h0 e1 hr (by decide +kernel) hf type_list_len slot_wget.lookup (fun h gg d t os ox od X I A' E' Q' hq => wget_call X I S.lst cut_len type_list_len A' E' Q' hq) (.inl rfl) (fun h2 tk q kp hq => ?_) hev
    refine bound_call hq (.inl rfl) PySem.F.entry_list_len PySem.F.slot_list_len.plain (fun A' E' Q' z => by rw [check_len]; exact wpAny_pure z) fun A' _ => ?_
    obtain ⟨Ac', dx, vs, n, kk, hs, t, u, e3, ho, _, _, dn, _⟩ := R.wd.acc hr
    rw [e2] at e3; cases e3
    refine len_body (kp _ _ ho) rfl ⟨_, rfl, ?_⟩
    have hl : vs.length = Ac.2.length := by simpa using dn.length
    rw [hl]
    exact hQ _ _ g (R.keeps kp) (.int _ _) (Ext.keeps kp)
  · cases hm
theorem parts_last : ∀ {l : List (Str × Str)} {p : Str × Str} {g : Gh} {h : Heap} {vs : List Value}, DenAll g h vs ((l ++ [p]).map part) → ∃ ws v, vs = ws ++ [v] ∧ DenAll g h ws (l.map part) ∧ Den g h v (part p) := by
  intro l p g h vs r
  rw [List.map_append] at r
  have : ∀ (ds : List D) (d : D) (vs : List Value), DenAll g h vs (ds ++ [d]) → ∃ ws v, vs = ws ++ [v] ∧ DenAll g h ws ds ∧ Den g h v d := by
    intro ds
    induction ds with
    | nil => intro d vs r; cases r with | cons a r => cases r; exact ⟨[], _, rfl, .nil, a⟩
    | cons e ds ih =>
      intro d vs r
      cases r with
      | cons a r =>
        obtain ⟨ws, v, rfl, h1, h2⟩ := ih d _ r
        exact ⟨_ :: ws, v, rfl, .cons a h1, h2⟩
  exact this _ _ _ r
theorem IEA_spop {pl : Sem Bool} (AK : AccK c K) (S : SupOk c K fd f cell code cd) (h0 : names[0]? = some ("self" : Str)) (hf : ks_superIn K c.C c.C "pop" = some (some (.builtin "list.pop"))) (hmod : mroIn K c.C (.type "module") = some false) (ht : typeIn K (.ref c.C) = some (.type "type")) (hqn : cd.qualname.toString = "_Accumulator")
    (hev : eval (.Call (.Attribute (.Call (.Name "super" p0) [] [] p1) "pop" apos) [] [] pos) (callEnv fd L f) = (do
      let ov ← attributeBase (.Call (.Name "super" p0) [] [] p1) "pop" (callEnv fd L f) (eval (.Call (.Name "super" p0) [] [] p1) (callEnv fd L f))
      standAt apos.atName
      let (fn, first) ← holding [ov] (getMethod ov "pop" pl)
      callWith pos fn first (backTo pos (starEach [] (callEnv fd L f))) []) := by rfl) :
    IEA c (mF fd f names k L) (.func body (callEnv fd L f)) (.Call (.Attribute (.Call (.Name "super" p0) [] [] p1) "pop" apos) [] [] pos) spopM := by
  intro A s σ g d σ' room R hm Q E hQ
  unfold spopM at hm
  split at hm
  · rename_i i Ac e
    split at hm
    · rename_i p hp
      split at hm
      · rename_i hz
        cases hm
        obtain ⟨e1, e2⟩ := accAt0_some e
        obtain ⟨a, hr⟩ := R.slot0 h0 e1
        refine wp_superCall AK S R h0 e1 hr (by decide +kernel) hf type_list_pop slot_mget.lookup (fun h gg d t os ox od X I A' E' Q' hq => mget_call X I S.lst cut_pop type_list_pop told_pop A' E' Q' hq) (.inr rfl) (fun h2 tk q kp hq => ?_) hev
        have R2 : Rel c (mF fd f names k L) σ g { s with heap := h2, toks := tk } := R.keeps kp
        obtain ⟨Ac', dx, vs, n, kk, hs, t, u, e3, ho, hdx, hmx, dn, I⟩ := R2.wd.acc hr
        rw [e2] at e3; cases e3
        have hsp : Ac.2 = Ac.2.dropLast ++ [p] := last_split hp
        rw [hsp] at dn
        obtain ⟨ws, v, rfl, d1, d2⟩ := parts_last dn
        have hwl : ws.length < 1000000 := by
          have := d1.length
          have h3 : Ac.2.length = Ac.2.dropLast.length + 1 := by rw [hsp]; simp
          simp at this
          omega
        refine bound_call hq (.inr rfl) PySem.F.entry_list_pop PySem.F.slot_list_pop.plain (check_pop (AK.at R2.wd) I hmod S.cls ht hqn) fun A' _ => ?_
        refine pop_body ho rfl (fun _ => rfl) hwl fun h' hs' ho' => ⟨_, rfl, ?_⟩
        obtain ⟨R3, x3⟩ := R2.setAcc (tk := tk) (l := Ac.2.dropLast) hr e2 ho hs' ho' d1
        refine hQ _ _ g R3 (d2.go (R2.go x3)) ((Ext.keeps kp).trans x3)
      · cases hm
    · cases hm
  · cases hm
end Mine
end
section
open PySem PySem.W PyProof.Rows PySem.SeqAt PySem.Spec
set_option autoImplicit false
namespace Mine
variable {c : Cx} {K : Frag} {F : Frm}
section
variable {prog : Program} {w : World} {A : Around} {E : Value → Shared → Prop} {s : Shared} {x C : Addr} {ox : Obj} {od : Option Obj} {name : Str} {pl : Sem Bool} {Q : Value × List Value → Shared → Prop}
theorem method_bt {id : String} (X : K.In s.heap) (I : InstAt s.heap x ox C od) (hga : findIn K (.ref C) "__getattribute__" = some (some (.builtin "list.__getattribute__"))) (hk : findIn K (.ref C) "__getattr__" = some none)
    (hf : findIn K (.ref C) name = some (some (.builtin id))) (ht : typeOf (.builtin id) = pure (.type "method_descriptor")) (hs : shadowIn od name = some false) (h : Q (.builtin id, [.ref x]) s) :
    wpAny (model prog w) A (getMethod (.ref x) name pl) Q E s := by
  have hcan : (Manifest.canonical "list.__getattribute__" != "object.__getattribute__") = false := by decide +kernel
  unfold getMethod specialOf
  refine wpAny_bind (wpAny_bind (I.type.here ((looks_findIn X hga).here ?_)))
  dsimp only
  rw [hcan, if_neg (by decide)]
  refine wpAny_bind (wpAny_bind (I.type.here ((looks_findIn X hk).here ?_)))
  refine wpAny_bind (wpAny_bind (I.type.here ((looks_findIn X hf).here (wpAny_bind (wpAny_of_eq ht ?_)))))
  rw [if_neg (by decide +kernel)]
  refine wpAny_bind (wpAny_loadPart I.at_ ?_)
  have hd := I.dict
  cases e : ox.dict with
  | none => exact wpAny_bind (wpAny_rule (wpAny_pure h))
  | some dx =>
    cases od with
    | none => rw [e] at hd; exact hd.elim
    | some o =>
      rw [e] at hd
      obtain ⟨r, a, b⟩ := Option.map_eq_some_iff.mp hs
      refine wpAny_bind (wpAny_bind (wpAny_loadPart hd ?_))
      rw [nsLook_of a]
      refine wpAny_pure ?_
      rw [b]
      exact wpAny_bind (wpAny_rule (wpAny_pure h))
end
noncomputable def accApp : List D → Mx D
  | [.acc i, .tup [.str x, .str y]] => fun σ => match σ.a[i]? with
    | some A => if A.2.length < 1000000 then some (.none, { σ with a := σ.a.set i (A.1, A.2 ++ [(x, y)]) }) else none
    | none => none
  | _ => fun _ => none
theorem accApp_some {l : List D} {σ σ' : MS} {d : D} (h : accApp l σ = some (d, σ')) : ∃ i x y A, l = [.acc i, .tup [.str x, .str y]] ∧ σ.a[i]? = some A ∧ A.2.length < 1000000 ∧ d = .none ∧ σ' = { σ with a := σ.a.set i (A.1, A.2 ++ [(x, y)]) } := by
  unfold accApp at h
  split at h
  · rename_i i x y
    split at h
    · rename_i A hA
      split at h
      · rename_i hz
        cases h
        exact ⟨i, x, y, A, rfl, hA, hz, rfl, rfl⟩
      · cases h
    · cases h
  · cases h
theorem IE_selfAppend {pl : Sem Bool} {o e : Expr} {apos pos : Pos} {mo : Mx D} {m : Mx (List D)} (AK : AccK c K) (hf : findIn K (.ref c.C) "append" = some (some (.builtin "list.append"))) (hsub : mroIn K c.C (.type "list") = some true) (ho : IE c F o mo) (hl : IL c F [e] m)
    (hev : eval (.Call (.Attribute o "append" apos) [e] [] pos) F.env = (do
      let ov ← eval o F.env
      standAt apos.atName
      let (f, first) ← holding [ov] (getMethod ov "append" pl)
      callWith pos f first (backTo pos (starEach [e] F.env)) []) := by rfl)
    (he : starEach [e] F.env = (false, eval e F.env) :: starEach [] F.env := by rfl) (hp : (backTo pos (starEach [e] F.env)).any (·.1) = false := by rfl) :
    IE c F (.Call (.Attribute o "append" apos) [e] [] pos) (bd mo fun d => if isAcc d then bd m fun ds => accApp (d :: ds) else fun _ => none) := by
  intro A s σ g d σ' room R hm Q E hQ
  obtain ⟨d0, σ0, q0, hm⟩ := bd_some hm
  split at hm
  · rename_i hacc
    obtain ⟨ds, σ1, q1, hm⟩ := bd_some hm
    refine MethodCall_ (pl := pl) (ho A s σ g d0 σ0 room R q0 _ _ fun v s0 g0 R0 dn0 x0 => ?_) hev
    cases dn0 with
    | @acc i a hr =>
      obtain ⟨_, _, _, _, _, _, _, _, _, _, _, _, _, I⟩ := R0.wd.acc hr
      refine method_bt (AK.at R0.wd) I AK.ga AK.gt hf PySem.F.type_list_append (shadow_no (by decide +kernel)) (Calls.callWith_builtin hp ?_)
      have h1 := hl A s0 σ0 g0 ds σ1 room R0 q1 pos (fun vs s' => wpAny (model c.prog c.w) A (call (.builtin "list.append") (.ref a :: vs)) Q E s') E fun vs s1 g1 R1 d1 x1 => by
        obtain ⟨j, p1, p2, Ac, hds, hA, hz, hd, hσ⟩ := accApp_some hm
        subst hd hσ
        cases hds
        obtain ⟨_, rfl, dv⟩ := d1.oneI
        have hr1 := (R0.go x1).rho i a hr
        obtain ⟨Ac', dx, vs, n, kk, hs, t, u, e3, hoa, hdx, hmx, dn, I1⟩ := R1.wd.acc hr1
        rw [hA] at e3; cases e3
        have hlen : vs.length = Ac.2.length := by simpa using dn.length
        refine sub_append (AK.at R1.wd) I1 hsub (fun h' hs' ho' => ?_) (by omega)
        obtain ⟨R3, x3⟩ := R1.setAcc (tk := s1.toks) (l := Ac.2 ++ [(p1, p2)]) hr1 hA hoa hs' ho' (by rw [List.map_append]; exact dn.append (.cons dv .nil))
        exact hQ _ _ g1 R3 .none ((x0.trans x1).trans x3)
      rw [he] at h1 ⊢
      exact Calls.evalArgs_plain h1
    | _ => cases hacc
  · cases hm
end Mine
end
section
open PySem PySem.W PyProof.Rows PySem.SeqAt PySem.Spec
set_option autoImplicit false
namespace Mine
noncomputable def makesL (K : Frag) (C : Addr) : Bool := match K.lookup C with
  | some ⟨_, _, .cls cd, sl⟩ => !cd.hasDel && cd.hasDict && (sl.toList[4]?).join == some (.builtin "list.__new__") && !cd.mro.isEmpty && cd.mro.contains (.ref C) && cd.mro.contains (.type "list") &&
      specialIn K (.ref C) "__call__" == some (some (.builtin "type.__call__")) && instIn K (.ref C) (.type "type") == some true
  | _ => false
structure MakesL (M : Model) (h : Heap) (C : Addr) : Prop where
  obj : ∃ oc od cd sl, h.get? C = some ⟨oc, od, .cls cd, sl⟩ ∧ cd.hasDict = true ∧ cd.hasDel = false ∧ cd.mro.isEmpty = false
  made : Looks M h (Bind.madeBy (.ref C)) (some "list.__new__")
  base : Looks M h (Bind.staticBase (.ref C)) (.ref C)
  self : Looks M h (isSubtype (.ref C) (.ref C)) true
  top : Looks M h (isSubtype (.ref C) (.type "list")) true
  call : Looks M h (specialOf (.ref C) "__call__") (some (.builtin "type.__call__"))
  typ : Looks M h (isInstance (.ref C) (.type "type")) true
theorem makesL_of {K : Frag} {M : Model} {h : Heap} (X : K.In h) {C : Addr} (e : makesL K C = true) : MakesL M h C := by
  unfold makesL at e
  split at e
  · rename_i oc od cd sl ho
    simp only [Bool.and_eq_true, Bool.not_eq_true', beq_iff_eq] at e
    obtain ⟨⟨⟨⟨⟨⟨⟨e2, e1⟩, e3⟩, e4⟩, e5⟩, e6⟩, e7⟩, e8⟩ := e
    have hc : clsIn K C = some cd := by unfold clsIn; rw [ho]
    have hm : Looks M h (mroOf (.ref C)) cd.mro := (looks_clsIn X hc).andThen .now
    obtain ⟨c, l, hl⟩ : ∃ c l, cd.mro = c :: l := by cases q : cd.mro with | nil => rw [q] at e4; cases e4 | cons c l => exact ⟨c, l, rfl⟩
    have made : Looks M h (Bind.madeBy (.ref C)) (some "list.__new__") := by
      intro A Q E s k q
      unfold Bind.madeBy
      refine wpAny_bind (hm A _ E s k ?_)
      rw [hl, List.forIn_cons]
      refine wpAny_bind (wpAny_bind (wpAny_bind (wpAny_bind (wpAny_loadPart (k _ _ (X _ _ ho)) (wpAny_pure ?_)))))
      dsimp only
      rw [← Array.getElem?_toList, e3]
      exact wpAny_pure (wpAny_pure (wpAny_pure q))
    refine ⟨⟨oc, od, cd, sl, X _ _ ho, e1, e2, e4⟩, made, ?_, looks_mroIn X ?_, looks_mroIn X ?_, looks_specialIn X e7, looks_instIn X e8⟩
    · intro A Q E s k q
      unfold Bind.staticBase
      refine wpAny_bind (hm A _ E s k ?_)
      rw [hl, List.forIn_cons]
      exact wpAny_bind (wpAny_bind (wpAny_bind (made A _ E s k (wpAny_pure (wpAny_pure (wpAny_pure q))))))
    · unfold mroIn; rw [hc, Option.bind_some, if_neg (by rw [e4]; decide), e5]
    · unfold mroIn; rw [hc, Option.bind_some, if_neg (by rw [e4]; decide), e6]
  · cases e
theorem ln_kind : builtinKind "list.__new__" = some .builtinFn := by decide +kernel
theorem ln_split : splitId "list.__new__" = some ("list", "__new__") := by decide +kernel
noncomputable abbrev newL (C dx : Addr) : Obj := { cls := .ref C, dict := some dx, data := .seq #[] 0 }
section
variable {prog : Program} {w : World} {A : Around} {K : Frag} {C : Addr} {R : Result → Shared → Prop} {h : Heap} {g : Array GenState} {d : Drawn} {t : Nat} {os : OsState}
theorem ln_args (x : Value) : argsOk "list.__new__" ⟨[.ref C, x], []⟩ := by unfold argsOk; kernel_rfl
theorem ln_check {x : Value} {Q : Unit → Shared → Prop} {E : Value → Shared → Prop} (Y : MakesL (model prog w) h C) (hq : Q () ⟨h, g, d, t, os⟩) : wpAny (model prog w) A (checkBuiltinCall "list.__new__" ⟨[.ref C, x], []⟩) Q E ⟨h, g, d, t, os⟩ := by
  obtain ⟨⟨oc, od, cd, sl, hC, e1, e2, e4⟩, made, base, self, top, call, typ⟩ := Y
  have ty : Looks (model prog w) h (isType (.ref C)) true := fun A Q E s k q => wpAny_bind (wpAny_loadPart (k _ _ hC) (wpAny_pure q))
  simp only [checkBuiltinCall, ln_kind, ln_split]
  have fin : ∀ A' : Around, wpAny (model prog w) A' (if let some sig := Manifest.signature? "list.__new__" then Bind.checkArgs "list.__new__" sig ⟨[.ref C, x], []⟩ else pure ()) Q E ⟨h, g, d, t, os⟩ := fun A' => by
    have ha := ln_args (C := C) x
    cases hsig : Manifest.signature? "list.__new__" with
    | none => exact wpAny_pure hq
    | some sig =>
      simp only [argsOk, hsig] at ha
      have h2 : Bind.checkArgs "list.__new__" sig ⟨[.ref C, x], []⟩ = pure () := ha
      show wpAny _ A' (Bind.checkArgs "list.__new__" sig ⟨[.ref C, x], []⟩) Q E _
      rw [h2]; exact wpAny_pure hq
  repeat (first | simp only [bne_self_eq_false, Bool.false_eq_true, if_false, Bool.not_true] | with_reducible exact fin _ | with_reducible refine wpAny_bind (ty.at ?_) | with_reducible refine wpAny_bind (top.at ?_) | lk)
  all_goals exact hq
theorem ln_code {x : Value} (Y : MakesL (model prog w) h C) (hq : R (.ok (.ret (.ref (h.objs.size + 1)))) ⟨(h.push emptyDict).push (newL C h.objs.size), g, d, t, os⟩) :
    codeAny (model prog w) A (.call (.builtin "list.__new__") ⟨[.ref C, x], []⟩) R ⟨h, g, d, t, os⟩ := by
  have Y' := Y
  obtain ⟨⟨oc, od, cd, sl, hC, e1, e2, e4⟩, made, base, self, top, call, typ⟩ := Y
  have ty : Looks (model prog w) h (isType (.ref C)) true := fun A Q E s k q => wpAny_bind (wpAny_loadPart (k _ _ hC) (wpAny_pure q))
  refine codeAny_of_tree ?_
  show wpAny _ A.in1 (do checkBuiltinCall "list.__new__" ⟨[.ref C, x], []⟩; again (.builtin "list.__new__" ⟨[.ref C, x], []⟩)) _ _ _
  refine wpAny_bind (ln_check Y' (wpAny_pure ⟨plainId_quiet PySem.F.plain_list_new _, codeAny_builtin_stack PySem.F.entry_list_new rfl fun p st => ?_⟩))
  rw [Around.under_plainId PySem.F.plain_list_new _]
  have hown := owner_list_new
  simp only [hown]
  refine wpAny_bind (ty.at ?_)
  simp only [Bool.not_true, Bool.false_eq_true, if_false]
  refine wpAny_bind (top.at ?_)
  simp only [Bool.not_true, Bool.false_eq_true, if_false]
  refine wpAny_bind (wpAny_pure ?_)
  show wpAny _ _ (newDict >>= _) _ _ _
  unfold newDict
  refine wpAny_bind (wpAny_newObj_type ?_ (by size_fits))
  dsimp only
  refine wpAny_bind ?_
  show wpAny _ _ (newObjAsIs _ _ _) _ _ _
  unfold newObjAsIs classHasDel
  refine wpAny_bind (wpAny_alloc (wpAny_bind (wpAny_bind (wpAny_load (Heap.get?_push_of_some _ (Heap.get?_push_of_some _ hC)) (wpAny_pure ?_)))))
  rw [e2]
  refine wpAny_pure (wpAny_pure ?_)
  show R _ _
  rw [Heap.size_push]
  exact hq
theorem makeL_core {v : Value} {fI : Addr} (Y : MakesL (model prog w) h C) (hi : Looks (model prog w) h (typeLookup (.ref C) "__init__") (some (.ref fI)))
    (hb : ∀ self, Looks (model prog w) h (bindSpecial (.ref fI) self) (.ref fI, [self]))
    (hq : codeAny (model prog w) (A.under (.builtin "type.__call__" ⟨[.ref C, v], []⟩)) (.call (.ref fI) ⟨[.ref (h.objs.size + 1), v], []⟩) (InitBack (h.objs.size + 1) R) ⟨(h.push emptyDict).push (newL C h.objs.size), g, d, t, os⟩) :
    codeAny (model prog w) A (.call (.ref C) ⟨[v], []⟩) R ⟨h, g, d, t, os⟩ := by
  have Y' := Y
  obtain ⟨⟨oc, od, cd, sl, hC, e1, e2, e4⟩, made, base, self, top, call, typ⟩ := Y
  refine codeAny_of_tree ?_
  show wpAny _ _ (callAny (.ref C) _) _ _ _
  refine nd_load hC ?_
  show wpAny _ _ (callAny.viaDunder (.ref C) _) _ _ _
  unfold callAny.viaDunder
  refine wpAny_bind (call.at ?_)
  dsimp only
  rw [tc_bind]
  refine wpAny_bind (wpAny_pure (wpAny_bind (wpAny_pure ?_)))
  refine wpAny_pure (a := Fin.again (.call (.builtin "type.__call__") ⟨[.ref C, v], []⟩)) (And.intro rfl ?_)
  refine codeAny_call_builtin_at (Code.quiet_builtin _ (by decide +kernel)) entry_typeCall (check_slot tc_kind tc_split typ (tc_args _ _ _) ?_)
  unfold Builtin.«type.__call__»
  have hm : Looks (model prog w) h (mroOf (.ref C)) cd.mro := ((Looks.ld (part := none) hC).andThen .now).andThen .now
  repeat (first | simp only [e4, Bool.false_eq_true, if_false] | with_reducible refine wpAny_call ?_ | lk)
  refine ln_code Y' ?_
  have k : ∀ b o, h.get? b = some o → ((h.push emptyDict).push (newL C h.objs.size)).get? b = some o := fun b o e => Heap.get?_push_of_some _ (Heap.get?_push_of_some _ e)
  have hx : ((h.push emptyDict).push (newL C h.objs.size)).get? (h.objs.size + 1) = some (newL C h.objs.size) := by heap_get
  have t1 : Looks (model prog w) ((h.push emptyDict).push (newL C h.objs.size)) (typeOf (.ref (h.objs.size + 1))) (.ref C) := (Looks.ld hx).andThen .now
  have s1 := self.keeps k
  have i1 := hi.keeps k
  have b1 := (hb (.ref (h.objs.size + 1))).keeps k
  unfold isInstance callSpecial? specialOf
  repeat (first | with_reducible refine wpAny_call ?_ | lk)
  refine codeAny_mono hq fun r s' z => ?_
  rcases r with e | (v | _ | _ | _) <;> first | exact z | exact z.elim | skip
  obtain ⟨rfl, z⟩ := z
  exact wpAny_pure (wpAny_pure z)
end
end Mine
end
section
open PySem PySem.W PyProof.Rows PySem.SeqAt PySem.Spec Builtin Builtin.ObjectAttr
set_option autoImplicit false
namespace Mine
theorem refuse_list (self : Value) : refuseLoop self "__setattr__" [.type "list", .type "object"] = pure () := by kernel_rfl
section
variable {prog : Program} {w : World} {A : Around} {K : Frag} {C x dx : Addr} {s : Shared} {R : Result → Shared → Prop} {E : Value → Shared → Prop}
theorem sub_osa {ox : Obj} {tk : Tok} {v : Value} {cd : ClassData} (X : K.In s.heap) (I : InstAt s.heap x ox C (some emptyDict)) (hd : ox.dict = some dx) (hD : s.heap.get? dx = some emptyDict) (hc : clsIn K C = some cd) (hmro : cd.mro = [.ref C, .type "list", .type "object"]) (hh : cd.hasDict = true)
    (ht : findIn K (.ref C) "_initial_size" = some none)
    (h : ∀ h' hs k, Heap.SameBut dx s.heap h' → h'.get? dx = some (dictOf [⟨hs, .str "_initial_size" s.toks, v⟩] k) → R (.ok (.ret .none)) { s with heap := h', toks := s.toks + 1 }) :
    codeAny (model prog w) A (.call (.builtin "object.__setattr__") ⟨[.ref x, .str "_initial_size" tk, v], []⟩) R s := by
  have SF := PySem.F.store_object
  have sub : Looks (model prog w) s.heap (isInstance (.ref x) (.type "object")) true := I.type.andThen (looks_mroIn X (by unfold mroIn; rw [hc, Option.bind_some, hmro]; rfl))
  refine codeAny_call_builtin SF.slot.plain SF.entry (@check_slot (model prog w) _ _ s "object.__setattr__" "object" "__setattr__" (.ref x) [.str "_initial_size" tk, v] [] _ SF.kind SF.split sub (SF.args (.ref x) (.str "_initial_size" tk) v) ?_)
  have hm : Looks (model prog w) s.heap (mroOf (.ref C)) cd.mro := (looks_clsIn X hc).andThen .now
  rw [osa_eq, refuse_eq]
  refine wpAny_bind (wpAny_bind (I.type.here (wpAny_bind (hm.here ?_))))
  rw [hmro, refuseLoop_ref, refuse_list]
  refine wpAny_pure (wpAny_bind (I.type.here (wpAny_bind ((looks_findIn X ht).here (wpAny_bind (wpAny_pure ?_))))))
  obtain ⟨hx, hcl, hn, -⟩ := I
  obtain ⟨oc, odi, oda, osl⟩ := ox
  dsimp only at hcl hd
  subst hcl hd
  refine wpAny_bind (wpAny_pure (wpAny_bind (wpAny_bind (wpAny_loadPart hx (wpAny_bind ((looks_clsIn X hc).here ?_))))))
  rw [hh]
  refine wpAny_pure (a := some dx) (wpAny_bind (wpAny_pure (wpAny_bind ?_)))
  unfold nsSet
  refine wpAny_bind (wpAny_bind (wpAny_askSetting (wpAny_pure (wpAny_bind (wpAny_mkText (wpAny_bind (wpAny_loadPart hD ?_)))))))
  dsimp only
  rw [aRefKeyMayBeTheName_at, if_neg (by simp)]
  generalize (if (Str.ofString "_initial_size").cps.isEmpty = true then 0 else reduceHash ((model prog w).w.params.strHash (Str.ofString "_initial_size").cps)) = H
  refine wpAny_updatePart hD ?_
  have D' : (s.heap.update dx (Obj.putName "_initial_size" H (.str "_initial_size" s.toks) v)).get? dx = some (Obj.putName "_initial_size" H (.str "_initial_size" s.toks) v emptyDict) := Heap.get?_update_self _ hD rfl
  refine wpAny_bind (wpAny_lookBehind D' (by exact pastItsLine_dict (by simp [sizeLine_eq])) ?_)
  refine wpAny_pure (h _ H 1 (Heap.SameBut.update ..) ?_)
  rw [D']
  rfl
end
end Mine
end
section
open PySem PySem.W PyProof.Rows PySem.SeqAt PySem.Spec
set_option autoImplicit false
namespace Mine
variable {c : Cx} {K : Frag}
theorem cut_init : ".".intercalate ("list.__init__".cutAt '.').dropLast = "list" := by decide +kernel
theorem init_body {prog : Program} {w : World} {A : Around} {E : Value → Shared → Prop} {s : Shared} {a C dx : Addr} {Q : Fin → Shared → Prop} (ho : s.heap.get? a = some (newL C dx))
    (h : ∀ h', Heap.SameBut a s.heap h' → h'.get? a = some (newL C dx) → Q (.done (.ret .none)) { s with heap := h' }) : wpAny (model prog w) A (Builtin.«list.__init__» ⟨[.ref a], []⟩) Q E s := by
  show wpAny _ _ (Builtin.List.listItems (.ref a) >>= _) _ _ s
  refine wpAny_bind ?_
  unfold Builtin.List.listItems
  refine wpAny_bind (wpAny_seqItems ho rfl (wpAny_pure ?_))
  show wpAny _ _ (updateSeq a (fun _ => #[]) >>= _) _ _ s
  refine wpAny_bind (wpAny_updateSeq ho rfl ?_ (by simp) (by simp))
  refine wpAny_bind (wpAny_letGo (wpAny_pure (h _ (Heap.SameBut.update ..) ?_)))
  rw [Heap.get?_update_self _ ho rfl]
  rfl
theorem init_code {fd : FuncData} {f cell code x dx : Addr} {cd : ClassData} {A : Around} {s : Shared} {v : Value} {p1 p2 p3 p4 p5 p6 p7 p8 p9 : Pos} {R : Result → Shared → Prop}
    (S : SupOk c K fd f cell code cd) (X : K.In s.heap) (gns : s.heap.Ns mainGlobals c.mg) (bns : s.heap.Ns builtinsNs c.mb) (nol : s.heap.NoLimit) (hroom : A.depth < recursionLimit) (hCR : s.heap.CodeRec fd.code fd.qualname)
    (hbody : fd.body = .stmts [.Assign [.Attribute (.Name "self" p1) "_initial_size" p2] (.Name "initial_size" p3) p4, .Expr (.Call (.Attribute (.Call (.Name "super" p5) [] [] p6) "__init__" p7) [] [] p8) p9])
    (hbind : BindsTo s fd ⟨[.ref x, v], []⟩ [("self", .ref x), ("initial_size", v)]) (ki : fd.scope.names.lookup ("initial_size" : Str) = some .local) (hcell : ∀ x ∈ fd.scope.names, x.2 ≠ .cell)
    (gdx : mainGlobals ≠ dx) (bdx : builtinsNs ≠ dx) (hdK : K.lookup dx = none) (hx : s.heap.get? x = some (newL c.C dx)) (hD : s.heap.get? dx = some emptyDict) (hmro : cd.mro = [.ref c.C, .type "list", .type "object"]) (hh : cd.hasDict = true) (ht : findIn K (.ref c.C) "_initial_size" = some none)
    (hset : findIn K (.ref c.C) "__setattr__" = some (some (.builtin "object.__setattr__"))) (hf : ks_superIn K c.C c.C "__init__" = some (some (.builtin "list.__init__")))
    (h : ∀ h' tk hs k t, (∀ b o, b ≠ dx → b ≠ x → s.heap.get? b = some o → h'.get? b = some o) → h'.get? x = some (newL c.C dx) → h'.get? dx = some (dictOf [⟨hs, .str "_initial_size" t, v⟩] k) → R (.ok (.ret .none)) { s with heap := h', toks := tk })
    {pl : Sem Bool} (hev : ∀ L, eval (.Call (.Attribute (.Call (.Name "super" p5) [] [] p6) "__init__" p7) [] [] p8) (callEnv fd L f) = (do
      let ov ← attributeBase (.Call (.Name "super" p5) [] [] p6) "__init__" (callEnv fd L f) (eval (.Call (.Name "super" p5) [] [] p6) (callEnv fd L f))
      standAt p7.atName
      let (fn, first) ← holding [ov] (getMethod ov "__init__" pl)
      callWith p8 fn first (backTo p8 (starEach [] (callEnv fd L f))) []))
    (hco : fd.scope.isCoroutine = false := by rfl) (hgen : fd.scope.isGenerator = false := by rfl) : codeAny (model c.prog c.w) A (.call (.ref f) ⟨[.ref x, v], []⟩) R s := by
  obtain ⟨oc1, od1, sl1, hfn⟩ := S.fn
  have hxd : x ≠ dx := fun e => by rw [e, hD] at hx; cases hx
  refine ks_codeAny_call_defAt hroom (X _ _ hfn) rfl nol hCR hbody hbind hcell (fun y hy => ?_) (fun h₁ hns hk₁ => ?_) hco hgen S.kind
  · rcases List.mem_cons.mp hy with rfl | hy
    · exact S.ka
    · simp at hy; subst hy; exact ki
  · generalize hL : s.heap.objs.size = L at hns ⊢
    have hLx : L ≠ x := fun e => by have := Heap.lt_size hx; rw [← e, hL] at this; exact Nat.lt_irrefl _ this
    have hLd : L ≠ dx := fun e => by have := Heap.lt_size hD; rw [← e, hL] at this; exact Nat.lt_irrefl _ this
    have v1 : (fun y => ([(("self" : Str), Value.ref x), ("initial_size", v)] : List (Str × Value)).reverse.lookup y) ("self" : Str) = some (.ref x) := by rfl
    have v2 : (fun y => ([(("self" : Str), Value.ref x), ("initial_size", v)] : List (Str × Value)).reverse.lookup y) ("initial_size" : Str) = some v := by rfl
    refine ks_wpAt_execs_cons (ks_wpAt_Assign_Attr (wpAt_of_wpAny (wpAny_Name (wpAny_loadName_local S.kind ki hns v2 ?_) (by decide +kernel))) rfl)
    refine wpAny_Name (wpAny_loadName_local S.kind S.ka hns v1 ?_) (by decide +kernel)
    have X1 : K.In h₁ := fun b o z => hk₁ _ _ (X b o z)
    have I1 : InstAt h₁ x (newL c.C dx) c.C (some emptyDict) := ⟨hk₁ _ _ hx, rfl, rfl, hk₁ _ _ hD⟩
    refine set_plain X1 I1 hset (sub_osa X1 I1 rfl (hk₁ _ _ hD) S.cls hmro hh ht fun h' hs k sb hd' => ?_)
    have k2 : ∀ b o, b ≠ dx → h₁.get? b = some o → h'.get? b = some o := fun b o q e => (sb.2 b q).trans e
    have hns' : h'.Ns L (fun y => ([(("self" : Str), Value.ref x), ("initial_size", v)] : List (Str × Value)).reverse.lookup y) := hns.at' fun o e => k2 _ o hLd e
    have oG : ∀ b o, s.heap.get? b = some o → o.data ≠ .dict #[] 0 → h'.get? b = some o := fun b o e q => k2 b o (fun z => by subst z; rw [hD] at e; cases e; exact q rfl) (hk₁ b o e)
    have nsk : ∀ a m, s.heap.Ns a m → a ≠ dx → h'.Ns a m := fun a m hm q => hm.at' fun o e => k2 a o q (hk₁ a o e)
    have hint : interactive (callEnv fd L f) = false := by
      show (fd.scope.kind == .module && _) = false
      rw [S.kind]; rfl
    have X2 : K.In h' := fun b o z => k2 b o (fun q => by subst q; rw [hdK] at z; cases z) (X1 b o z)
    have I2 : InstAt h' x (newL c.C dx) c.C (some (dictOf [⟨hs, .str "_initial_size" (s.toks + 2 + 1), v⟩] k)) := ⟨k2 x _ hxd (hk₁ _ _ hx), rfl, rfl, hd'⟩
    refine ks_wpAt_execs_cons (ks_wpAt_Expr_any (wp_superCall0 S X2 (nsk _ _ gns gdx) (nsk _ _ bns bdx) I2 hns' v1 (by decide +kernel) hf type_list_init slot_wget.lookup (fun h gg d t os ox od X I A' E' Q' hq => wget_call X I S.lst cut_init type_list_init A' E' Q' hq) (.inl rfl) (fun h2 tk q kp hq => ?_) (hev L)) hint rfl)
    refine bound_call hq (.inl rfl) PySem.F.entry_list_init PySem.F.slot_list_init.plain (fun A' E' Q' z => by rw [check_init]; exact wpAny_pure z) fun A' _ => ?_
    refine init_body (kp _ _ (k2 x _ hxd (hk₁ _ _ hx))) fun h3 sb3 hx3 => ⟨_, rfl, wpAt_of_wpAny (wpAny_execs_nil ?_)⟩
    exact h h3 tk hs k _ (fun b o q1 q2 e => (sb3.2 b q2).trans (kp b o (k2 b o q1 (hk₁ b o e)))) hx3 ((sb3.2 dx hxd.symm).trans (kp _ _ hd'))
end Mine
end
section
open PySem PySem.W PyProof.Rows PySem.SeqAt PySem.Spec
set_option autoImplicit false
namespace Mine
variable {c : Cx} {K : Frag} {F : Frm}
theorem Rel.addAcc {σ : MS} {g : Gh} {s : Shared} {x : Addr} {A : Acc} (R : Rel c F σ g s) (p : Priv F g [x]) (hA : AccAt c g s.heap x A) :
    Rel c F { σ with a := σ.a ++ [A] } { g with rho := g.rho ++ [x] } s ∧ Go g { g with rho := g.rho ++ [x] } s.heap s.heap := by
  have hrho : ∀ (i : Nat) (a : Addr), g.rho[i]? = some a → (g.rho ++ [x])[i]? = some a := fun i a e => by
    have := (List.getElem?_eq_some_iff.mp e).1
    rw [List.getElem?_append_left this]; exact e
  have G : Go g { g with rho := g.rho ++ [x] } s.heap s.heap := ⟨fun _ _ _ _ e => e, fun _ _ _ q => q, hrho, fun _ _ e => e⟩
  obtain ⟨mx, nx, cx⟩ := p x (by simp)
  have nr : x ∉ g.rho := fun q => nx (mem_W_rho q)
  have W := R.wd
  refine ⟨⟨⟨W.base, W.old, W.tabc, c.tpk _ _ _ _ W.tp (fun _ _ _ e => e) (fun _ _ _ q => q), W.mub, W.os, W.gens, by simp [W.len], fun a ha => ?_, ?_, fun i a B e1 e2 => ?_⟩, R.fo, R.loc, fun i y d e1 e2 => ?_, R.cellx, R.wmu, R.blen, R.bmu, R.bnd, fun i b l e1 e2 => ?_⟩, G⟩
  · rcases List.mem_append.mp ha with ha | ha
    · exact W.rmu a ha
    · simp at ha; subst ha; exact mx
  · show (g.rho ++ [x]).Nodup
    rw [List.nodup_append]
    exact ⟨W.rnd, by simp, fun a ha b hb => by simp at hb; subst hb; exact fun q => nr (q ▸ ha)⟩
  · have e1' : (g.rho ++ [x])[i]? = some a := e1
    have e2' : (σ.a ++ [A])[i]? = some B := e2
    rcases Nat.lt_or_ge i g.rho.length with h | h
    · rw [List.getElem?_append_left h] at e1'
      rw [List.getElem?_append_left (by rw [← W.len]; exact h)] at e2'
      exact (W.accs i a B e1' e2').go G fun _ e => e
    · rw [List.getElem?_append_right h] at e1'
      rw [List.getElem?_append_right (by rw [← W.len]; exact h)] at e2'
      have hi : i - g.rho.length = 0 := by
        rcases Nat.eq_zero_or_pos (i - g.rho.length) with z | z
        · exact z
        · rw [List.getElem?_eq_none (by simp; omega)] at e1'; cases e1'
      rw [hi] at e1'; simp at e1'
      rw [← W.len, hi] at e2'; simp at e2'
      subst e1' e2'
      exact hA.go G fun _ e => e
  · obtain ⟨v, V, dn⟩ := R.vars i y d e1 e2
    exact ⟨v, V, dn.go G⟩
  · obtain ⟨vs, n, q1, q2⟩ := R.box i b l e1 e2
    exact ⟨vs, n, q1, q2.go G⟩
theorem callWith_cls {prog : Program} {w : World} {A : Around} {E : Value → Shared → Prop} {s : Shared} {pos : Pos} {C : Addr} {args : List (Bool × Sem Value)} {Q : Value → Shared → Prop} (hplain : args.any (·.1) = false)
    (h : wpAny (model prog w) A (evalArgs (.ref C) true args []) (fun a s₁ => MakesL (model prog w) s₁.heap C ∧ wpAny (model prog w) A (call (.ref C) a.pos a.kw) Q E s₁) E s) : wpAny (model prog w) A (callWith pos (.ref C) [] args []) Q E s := by
  unfold callWith
  refine wpAny_bind (wpAny_holding (wpAny_mono h (fun a s₁ h₁ => wpAny_bind (wpAny_standAt ?_)) fun _ _ x => x))
  obtain ⟨Y, hcall⟩ := h₁
  obtain ⟨⟨oc, od, cd, sl, hC, e1, e2, e4⟩, made, base, self, top, call, typ⟩ := Y
  simp only [hplain, List.any_nil, Bool.or_false]
  refine wpAny_bind (m := keeperOf (.ref C)) ?_
  unfold keeperOf
  refine wpAny_bind (wpAny_load hC ?_)
  refine wpAny_bind (call.here ?_)
  rw [if_pos (by simp)]
  refine wpAny_pure ?_
  exact wpAny_bind (wpAny_mono hcall (fun r s₂ hr => wpAny_bind (wpAny_holding (wpAny_point (wpAny_pure hr)))) fun _ _ x => x)
noncomputable def newM : List D → Mx D
  | [.int n] => fun σ => some (.acc σ.a.length, { σ with a := σ.a ++ [(n, [])] })
  | _ => fun _ => none
structure NewOk (c : Cx) (K : Frag) (fd : FuncData) (f cell code : Addr) (cd : ClassData) : Prop where
  S : SupOk c K fd f cell code cd
  mks : makesL K c.C = true
  ini : findIn K (.ref c.C) "__init__" = some (some (.ref f))
  ity : typeIn K (.ref f) = some (.type "function")
  crec : c.h0.CodeRec fd.code fd.qualname
  ct : code ∉ c.tabs
  bind : ∀ (s : Shared) (x v : Value), K.In s.heap → BindsTo s fd ⟨[x, v], []⟩ [("self", x), ("initial_size", v)]
  ki : fd.scope.names.lookup ("initial_size" : Str) = some .local
  hcell : ∀ x ∈ fd.scope.names, x.2 ≠ .cell
  mro : cd.mro = [.ref c.C, .type "list", .type "object"]
  dct : cd.hasDict = true
  no : findIn K (.ref c.C) "_initial_size" = some none
  set : findIn K (.ref c.C) "__setattr__" = some (some (.builtin "object.__setattr__"))
  sup : ks_superIn K c.C c.C "__init__" = some (some (.builtin "list.__init__"))
  co : fd.scope.isCoroutine = false
  gen : fd.scope.isGenerator = false
  low : ∀ b o, K.lookup b = some o → b < c.h0.objs.size
  glow : mainGlobals < c.h0.objs.size ∧ builtinsNs < c.h0.objs.size
  body : ∃ p1 p2 p3 p4 p5 p6 p7 p8 p9 pl, fd.body = .stmts [.Assign [.Attribute (.Name "self" p1) "_initial_size" p2] (.Name "initial_size" p3) p4, .Expr (.Call (.Attribute (.Call (.Name "super" p5) [] [] p6) "__init__" p7) [] [] p8) p9] ∧
    ∀ L, eval (.Call (.Attribute (.Call (.Name "super" p5) [] [] p6) "__init__" p7) [] [] p8) (callEnv fd L f) = (do
      let ov ← attributeBase (.Call (.Name "super" p5) [] [] p6) "__init__" (callEnv fd L f) (eval (.Call (.Name "super" p5) [] [] p6) (callEnv fd L f))
      standAt p7.atName
      let (fn, first) ← holding [ov] (getMethod ov "__init__" pl)
      callWith p8 fn first (backTo p8 (starEach [] (callEnv fd L f))) [])
theorem IE_newAcc {fd : FuncData} {f cell code : Addr} {cd : ClassData} {x : Str} {p pos : Pos} {e : Expr} {m : Mx (List D)} (AK : AccK c K) (N : NewOk c K fd f cell code cd) (hk : 2 ≤ F.k) (hx : GlobIs c F x (.ref c.C)) (hl : IL c F [e] m)
    (hd : (x == ("__debug__" : Str)) = false := by decide +kernel) (he : starEach [e] F.env = (false, eval e F.env) :: starEach [] F.env := by rfl) (hp : (backTo pos (starEach [e] F.env)).any (·.1) = false := by rfl) :
    IE c F (.Call (.Name x p) [e] [] pos) (bd m newM) := by
  intro A s σ g d σ' room R hm Q E hQ
  obtain ⟨ds, σ1, q1, hm⟩ := bd_some hm
  refine wpAny_Call_NameR (wp_glob R hx (callWith_cls hp ?_) hd)
  have h1 := hl A s σ g ds σ1 room R q1 pos (fun vs s' => MakesL (model c.prog c.w) s'.heap c.C ∧ wpAny (model c.prog c.w) A (call (.ref c.C) vs) Q E s') E fun vs s1 g1 R1 d1 x1 => by
    have X : K.In s1.heap := AK.at R1.wd
    refine ⟨makesL_of X N.mks, ?_⟩
    unfold newM at hm
    split at hm
    · rename_i n
      cases hm
      obtain ⟨_, rfl, dv⟩ := d1.oneI
      obtain ⟨t, rfl⟩ := dv.intI
      obtain ⟨p1, p2, p3, p4, p5, p6, p7, p8, p9, pl, hbody, hev⟩ := N.body
      have hCR : s1.heap.CodeRec fd.code fd.qualname := by
        obtain ⟨b, ob, vb, t, e1, e2, e3⟩ := N.crec
        refine ⟨b, ob, vb, t, e1, R1.wd.base b ob ?_ e2, e3⟩
        have := N.S.cod; rw [e1] at this; cases this; exact N.ct
      obtain ⟨hh, gg, dd, tk, os⟩ := s1
      have kp : ∀ b o, hh.get? b = some o → ((hh.push emptyDict).push (newL c.C hh.objs.size)).get? b = some o := fun b o e => Heap.get?_push_of_some _ (Heap.get?_push_of_some _ e)
      have hx' : ((hh.push emptyDict).push (newL c.C hh.objs.size)).get? (hh.objs.size + 1) = some (newL c.C hh.objs.size) := by
        have := Heap.get?_push_size (hh.push emptyDict) (o := newL c.C hh.objs.size) rfl
        rw [Heap.size_push] at this; exact this
      have hd' : ((hh.push emptyDict).push (newL c.C hh.objs.size)).get? hh.objs.size = some emptyDict := Heap.get?_push_of_some _ (Heap.get?_push_size _ rfl)
      have nsk : ∀ a m, hh.Ns a m → ((hh.push emptyDict).push (newL c.C hh.objs.size)).Ns a m := fun a m hm => hm.at' fun o e => kp a o e
      have hsz : c.h0.objs.size ≤ hh.objs.size := R1.wd.size
      refine wpAny_call (makeL_core (makesL_of X N.mks) (looks_findIn X N.ini) (fun self => bind_fn X self N.ity) ?_)
      refine init_code (dx := hh.objs.size) N.S (fun b o z => kp b o (X b o z)) (nsk _ _ R1.wd.gns) (nsk _ _ R1.wd.bns) (R1.wd.nol.keeps kp) ?_ (hCR.keeps kp) hbody (N.bind _ _ _ (fun b o z => kp b o (X b o z))) N.ki N.hcell
        (fun q => Nat.lt_irrefl _ (Nat.lt_of_lt_of_le (q ▸ N.glow.1) hsz)) (fun q => Nat.lt_irrefl _ (Nat.lt_of_lt_of_le (q ▸ N.glow.2) hsz)) ?_ hx' hd' N.mro N.dct N.no N.set N.sup (fun h' tk' hs k t' kp' gx gd => ?_) hev N.co N.gen
      · have := room.depth
        show A.depth + 1 < recursionLimit
        omega
      · cases z : K.lookup hh.objs.size with
        | none => rfl
        | some o => exact absurd (N.low _ _ z) (Nat.not_lt.mpr hsz)
      · have kpa : ∀ b o, hh.get? b = some o → h'.get? b = some o := fun b o e => by
          have hb : b < hh.objs.size := Heap.lt_size e
          exact kp' b o (Nat.ne_of_lt hb) (Nat.ne_of_lt (Nat.lt_succ_of_lt hb)) (kp b o e)
        obtain ⟨R2, p2, x2, G2⟩ := R1.fresh (tk := tk') (wr := [hh.objs.size + 1]) kpa (fun b hb => by simp at hb; subst hb; exact Nat.le_succ _) (fun b hb => by simp at hb; subst hb; exact ⟨_, gx⟩)
        have nd : ¬ (g1.plus [hh.objs.size + 1]).mu hh.objs.size := fun q => by
          rcases q with q | q
          · exact R1.new q
          · simp at q
        have hA : AccAt c (g1.plus [hh.objs.size + 1]) h' (hh.objs.size + 1) (n, []) := ⟨hh.objs.size, [], 0, k, hs, t', t, gx, gd, nd, .nil⟩
        obtain ⟨R3, G3⟩ := R2.addAcc p2 hA
        refine ⟨rfl, hQ (.ref (hh.objs.size + 1)) _ _ R3 (.acc ?_) (x1.trans ⟨x2.keep, x2.there, x2.mu1, x2.mu2, ⟨[hh.objs.size + 1], rfl, fun a ha => ?_⟩, x2.bet⟩)⟩
        · show (g1.rho ++ [hh.objs.size + 1])[σ1.a.length]? = _
          rw [← R1.wd.len]; simp
        · simp at ha; subst ha; exact none_of_size (Nat.le_succ _)
    · cases hm
  rw [he] at h1 ⊢
  exact Calls.evalArgs_plain h1
end Mine
end
section
open PySem PySem.W PyProof.Rows PySem.SeqAt PySem.Spec
set_option autoImplicit false
namespace Mine
variable {c : Cx} {K : Frag} {F : Frm}
section
variable {prog : Program} {w : World} {A : Around} {E : Value → Shared → Prop} {s : Shared}
theorem next_seq_item {it l : Addr} {i : Nat} {items : Array Value} {ol : Obj} {nl : Nat} {x : Value} {Q : Option Value → Shared → Prop} (hit : s.heap.IsListIter it l i)
    (hol : s.heap.get? l = some ol) (hdl : ol.data = .seq items nl) (hx : items[i]? = some x)
    (hQ : ∀ h', h'.IsListIter it l (i + 1) → Heap.SameBut it s.heap h' → Q (some x) { s with heap := h' }) :
    wpAny (model prog w) A (pyNext (.ref it)) Q E s := by
  obtain ⟨o, ho, hc, hd⟩ := id hit
  unfold pyNext
  refine wpAny_bind (wpAny_attempt (wpAny_callSpecial?_slot (name := Str.ofString "__next__") hit.typeIs slot_listiter_next
    (wpAny_call_entry slot_listiter_next hit.typeIs entry_listiter_next ?_ (args_listiter_next _))))
  show wpAny _ _ (field (.ref it) 0 >>= _) _ _ s
  refine wpAny_bind (wpAny_field ho hd (x := .ref l) rfl ?_)
  show wpAny _ _ (if (Value.ref l == Value.none) = true then _ else _) _ _ s
  rw [if_neg (show ¬ ((Value.ref l == Value.none) = true) from Bool.false_ne_true)]
  show wpAny _ _ (field (.ref it) 1 >>= _) _ _ s
  refine wpAny_bind (wpAny_field ho hd (x := .int i 0) rfl ?_)
  show wpAny _ _ (seqItems? (.ref l) >>= _) _ _ s
  refine wpAny_bind (wpAny_seqItems hol hdl ?_)
  simp only [Int.toNat_natCast, hx]
  refine wpAny_bind (wpAny_setField ho hd (by simp) (wpAny_pure ⟨x, rfl, wpAny_pure (hQ _ ?_ (Heap.SameBut.update ..))⟩))
  exact ⟨_, Heap.get?_update_self _ ho (Obj.isFreed_of_fields (Obj.data_mapFields hd _)), (Obj.cls_mapFields ..).trans hc, by
    rw [Obj.data_mapFields hd]; simp [rawInt]⟩
theorem next_seq_end {it l : Addr} {i : Nat} {items : Array Value} {ol : Obj} {nl : Nat} {Q : Option Value → Shared → Prop} (hh : A.handled = none)
    (hit : s.heap.IsListIter it l i) (hol : s.heap.get? l = some ol) (hdl : ol.data = .seq items nl) (hx : items[i]? = none)
    (hQ : ∀ h', Heap.ExtBut it s.heap h' → Q none { s with heap := h' }) : wpAny (model prog w) A (pyNext (.ref it)) Q E s := by
  obtain ⟨o, ho, hc, hd⟩ := id hit
  unfold pyNext
  refine wpAny_bind (wpAny_attempt (wpAny_callSpecial?_slot (name := Str.ofString "__next__") hit.typeIs slot_listiter_next
    (wpAny_call_entry slot_listiter_next hit.typeIs entry_listiter_next ?_ (args_listiter_next _))))
  show wpAny _ _ (field (.ref it) 0 >>= _) _ _ s
  refine wpAny_bind (wpAny_field ho hd (x := .ref l) rfl ?_)
  show wpAny _ _ (if (Value.ref l == Value.none) = true then _ else _) _ _ s
  rw [if_neg (show ¬ ((Value.ref l == Value.none) = true) from Bool.false_ne_true)]
  show wpAny _ _ (field (.ref it) 1 >>= _) _ _ s
  refine wpAny_bind (wpAny_field ho hd (x := .int i 0) rfl ?_)
  show wpAny _ _ (seqItems? (.ref l) >>= _) _ _ s
  refine wpAny_bind (wpAny_seqItems hol hdl ?_)
  simp only [Int.toNat_natCast, hx]
  refine wpAny_bind (wpAny_rule (wpAny_bind (wpAny_setField ho hd (by simp) ?_)))
  show wpAny _ _ (newExc (.type "StopIteration") [] >>= _) _ _ _
  refine wpAny_bind ?_
  simp only [newExc, newTuple]
  refine wpAny_bind (wpAny_newObj_type ?_ (by size_fits))
  refine wpAny_bind (m := firstArgMember _ _) (wpAny_of_eq (a := Value.none) (by first | rfl | (simp only [firstArgMember]; rfl)) ?_)
  refine wpAny_newObj_type ?_ (by size_fits)
  simp only [raiseNew]
  refine wpAny_bind (wpAny_handled ?_)
  rw [show A.in1.handled = none from hh]
  refine wpAny_bind (wpAny_pure (wpAny_throw ?_))
  refine wpAny_bind (wpAny_isInstance (T := "StopIteration") (b := true) ⟨_, Heap.get?_push_size _ rfl, rfl⟩ isSubtype_stop ?_)
  exact wpAny_pure (hQ _ (((Heap.SameBut.update ..).extBut.push _).push _))
theorem iter_sub {a C : Addr} {ox : Obj} {od : Option Obj} {Q : Value → Shared → Prop} (X : K.In s.heap) (I : InstAt s.heap a ox C od) (hsub : mroIn K C (.type "list") = some true) (hi : findIn K (.ref C) "__iter__" = some (some (.builtin "list.__iter__")))
    (hQ : Q (.ref s.heap.objs.size) { s with heap := s.heap.push { cls := .type "list_iterator", data := .fields #[.ref a, .int 0 0] } }) : wpAny (model prog w) A (pyIter (.ref a)) Q E s := by
  have L : Looks (model prog w) s.heap (specialOf (.ref a) "__iter__") (some (.builtin "list.__iter__")) := I.type.andThen (looks_findIn X hi)
  have hcall : ∀ (Q' : Value → Shared → Prop), Q' (.ref s.heap.objs.size) { s with heap := s.heap.push { cls := .type "list_iterator", data := .fields #[.ref a, .int 0 0] } } → wpAny (model prog w) A (call (.builtin "list.__iter__") [.ref a]) Q' E s := fun Q' hq => by
    refine wpAny_call (codeAny_call_builtin PySem.F.slot_list_iter.plain PySem.F.entry_list_iter (sub_check X I hsub (n := "__iter__") (by decide +kernel) (.inl (by decide +kernel)) (PySem.F.args_list_iter_1 _) ?_))
    show wpAny _ _ (do ret (← newFields "list_iterator" [.ref a, rawInt 0])) _ _ s
    exact wpAny_bind (wpAny_newObj_type (wpAny_pure hq))
  unfold pyIter
  refine wpAny_bind (L.here ?_)
  show wpAny _ A (callSpecialIfBoundUnlessNone? (.ref a) "__iter__" _ >>= _) Q E s
  refine wpAny_bind ?_
  simp only [callSpecialIfBoundUnlessNone?, bindSpecialIfBound?]
  refine wpAny_holding (wpAny_bind (wpAny_bind (L.here ?_)))
  simp only [PySem.F.slot_list_iter.bind]
  refine wpAny_bind (wpAny_askSetting (wpAny_ite ?_))
  have hend : wpAny (model prog w) A (specialOf (.ref s.heap.objs.size) "__next__" >>= fun r => match r with | none => (do rule "iter.non-iterator"; raiseError "TypeError" s!"iter() returned non-iterator of type '{← typeNameOf (.ref s.heap.objs.size)}'") | some _ => pure (.ref s.heap.objs.size)) Q E { s with heap := s.heap.push { cls := .type "list_iterator", data := .fields #[.ref a, .int 0 0] } } :=
    wpAny_bind (wpAny_specialOf (T := "list_iterator") ⟨_, Heap.get?_push_size _ rfl, rfl⟩ slot_listiter_next.lookup (wpAny_pure hQ))
  split
  · refine wpAny_bind (wpAny_pure (wpAny_pure ?_))
    exact wpAny_bind (hcall _ (wpAny_pure hend))
  · refine wpAny_tryCatch (wpAny_bind (wpAny_pure (wpAny_pure ?_)))
    exact wpAny_bind (hcall _ (wpAny_pure hend))
end
theorem walksAcc {A : Around} (hh : A.handled = none) {I ax : Addr} {ol : Obj} {nl : Nat} {items : Array Value} (hne : ax ≠ I) (hd : ol.data = .seq items nl) (Ts : Nat → Addr) (vals : Nat → Array Value)
    (hit : ∀ j, j < items.size → items[j]? = some (.ref (Ts j))) (hTI : ∀ j, j < items.size → Ts j ≠ I) :
    WalksU c.prog c.w A I (I :: ax :: (List.range items.size).map Ts) [I] items.size (fun j v => j < items.size ∧ v = vals j)
      (fun j h => h.IsListIter I ax j ∧ h.get? ax = some ol ∧ ∀ k, k < items.size → h.IsTuple (Ts k) (vals k))
      (fun j T h => (j < items.size ∧ T = Ts j) ∧ h.IsListIter I ax (j + 1) ∧ h.get? ax = some ol ∧ ∀ k, k < items.size → h.IsTuple (Ts k) (vals k)) where
  sub := fun b hb => by simp at hb; simp [hb]
  frame := fun _ _ _ st hk => ⟨st.1.at fun o e => hk I (by simp) o e, hk ax (by simp) _ st.2.1,
    fun k hk' => (st.2.2 k hk').at fun o e => hk (Ts k) (List.mem_cons_of_mem _ (List.mem_cons_of_mem _ (List.mem_map.mpr ⟨k, List.mem_range.mpr hk', rfl⟩))) o e⟩
  item := fun i s Q E hi st hQ => by
    refine next_seq_item st.1 st.2.1 hd (x := .ref (Ts i)) (hit i hi) fun h' hit' hs' => ?_
    have tup : ∀ k, k < items.size → h'.IsTuple (Ts k) (vals k) := fun k hk' => (st.2.2 k hk').extBut hs'.extBut (hTI k hk')
    exact hQ (Ts i) (vals i) h' s.toks ⟨hi, rfl⟩ (tup i hi) ⟨⟨hi, rfl⟩, hit', hs'.extBut _ _ hne st.2.1, tup⟩ fun b o hb e => hs'.extBut b o (fun h => hb (by simp [h])) e
  go := fun _ _ _ _ _ s Q _ hm hQ => wpAny_letOwnedTupleGo_listiter hm.2.1 (hQ s.heap hm.2 fun _ _ _ e => e)
  apart := fun j T _ hm hmem => by
    rcases List.mem_cons.mp hmem with e | e
    · exact hTI j hm.1.1 (hm.1.2 ▸ e)
    · cases e
  done := fun s Q E st hQ => next_seq_end hh st.1 st.2.1 hd (by simp) fun h' he' => hQ h' s.toks fun b o hb e => he' b o (fun h => hb (by simp [h])) e
  self := fun _ _ _ _ st hQ => wpAny_pyIter_listiter st.1 hQ
end Mine
end
section
open PySem PySem.W PyProof.Rows PySem.SeqAt PySem.Spec
set_option autoImplicit false
namespace Mine
theorem args_sum2 (a b : Value) : argsOk "sum" ⟨[a, b], []⟩ := by unfold argsOk; kernel_rfl
noncomputable def shiftV (n : Int) (val : Nat → Int) : Nat → Int
  | 0 => n
  | i + 1 => val i
theorem preSum_shift (n : Int) (val : Nat → Int) : ∀ k, preSum (shiftV n val) (k + 1) = n + preSum val k
  | 0 => by simp [preSum, shiftV]
  | k + 1 => by
    show preSum (shiftV n val) (k + 1) + val k = n + (preSum val k + val k)
    rw [preSum_shift n val k]; omega
theorem shiftW {prog : Program} {w : World} {A : Around} {I : Addr} {fp wr : List Addr} {G : Array GenState → Array GenState → Prop} {n : Nat} {P : Nat → Value → Prop} {St : Nat → Shared → Prop} (W : WalksS prog w A I fp wr G n P St) :
    WalksS prog w A I fp wr G (n + 1) (fun i v => match i with | 0 => False | i + 1 => P i v) (fun i s => match i with | 0 => False | i + 1 => St i s) where
  sub := W.sub
  grefl := W.grefl
  gtrans := W.gtrans
  frame := fun i s h' tk st a b => by cases i with | zero => exact st | succ i => exact W.frame i s h' tk st a b
  item := fun i s Q E hi st hQ => by cases i with | zero => exact st.elim | succ i => exact W.item i s Q E (by omega) st hQ
  done := fun s Q E st hQ => W.done s Q E st hQ
  self := fun i s Q E st hQ => by cases i with | zero => exact st.elim | succ i => exact W.self i s Q E st hQ
section
variable {prog : Program} {w : World} {A : Around} {E : Value → Shared → Prop} {s : Shared}
theorem call_sum_start {x : Value} {st0 : Int} {t0 : Tok} {Q : Value → Shared → Prop} (hfit : (decide (-(2 ^ 63) ≤ st0) && decide (st0 < 2 ^ 63)) = true)
    (h : wpAny (model prog w) A.in1 (pyIter x) (fun it s₂ => ∃ I fp wr G n P St val, it = .ref I ∧ WalksS prog w A.in1 I fp wr G n P St ∧ St 0 s₂ ∧ (∀ b ∈ fp, b < s₂.heap.objs.size) ∧
      (∀ i v, P i v → ∃ t, v = .int (val i) t) ∧
      ∀ s' t', Moved wr G s₂ s' → Q (.int (st0 + preSum val n) t') s') E s) :
    wpAny (model prog w) A (call (.builtin "sum") [x, .int st0 t0]) Q E s := by
  refine call_function_tree PySem.F.kind_sum PySem.F.plain_sum PySem.F.entry_sum (args_sum2 _ _) ?_
  unfold Builtin.«sum»
  simp only [List.length_cons, List.length_nil]
  rw [if_neg (by decide)]
  refine wpAny_bind (wpAny_of_eq (show Builtin.Builtins.bindParams "sum" ["start"] 0 ⟨[.int st0 t0], []⟩ = pure [some (.int st0 t0)] from rfl) ?_)
  refine wpAny_bind (wpAny_mono h (fun it s₂ h₂ => ?_) fun _ _ e => e)
  obtain ⟨I, fp, wr, G, n, P, St, val, rfl, W, hst, hfp, hval, hQ⟩ := h₂
  dsimp only
  split
  case isFalse hn => exact absurd hfit hn
  refine wpAny_bind (wpAny_rule (wpAny_bind (wpAny_mkInt (wpAny_bind (wpAny_pure ?_)))))
  simp only [List.forIn_cons, List.forIn_nil]
  refine wpAny_bind (wpAny_bind (wpAny_bind (wpAny_isInstance (T := "int") (b := false) (typeIs_int _ _ _) PySem.sub_int_str ?_)))
  simp only [Bool.false_eq_true, if_false]
  refine wpAny_pure (wpAny_bind (wpAny_bind (wpAny_isInstance (T := "int") (b := false) (typeIs_int _ _ _) PySem.sub_int_bytes ?_)))
  simp only [Bool.false_eq_true, if_false]
  refine wpAny_pure (wpAny_bind (wpAny_bind (wpAny_isInstance (T := "int") (b := false) (typeIs_int _ _ _) PySem.sub_int_bytearray ?_)))
  simp only [Bool.false_eq_true, if_false]
  refine wpAny_pure (wpAny_pure ?_)
  refine wpAny_bind (wpAny_newObj_type ?_)
  have hSf : s₂.heap.objs.size ∉ fp := fun hm => Nat.lt_irrefl _ (hfp _ hm)
  refine wpAny_pure ⟨plainId_quiet PySem.F.plain_sum_loop _, codeAny_sum_loopAnyS (shiftW W) (shiftV st0 val) (fun i v hp => by cases i with | zero => exact hp.elim | succ i => exact hval i v hp) s₂.heap.objs.size hSf n 1 _ s₂.toks 0 0 (.inl rfl) (by omega) (by omega)
    (W.frame 0 s₂ _ _ hst (Nat.le_succ _) fun b _ o e => Heap.get?_push_of_some _ e) ?_ fun s' t' hm => ?_⟩
  · have := Heap.get?_push_size s₂.heap (o := { cls := .type "list", data := .seq #[.int st0 s₂.toks] }) rfl
    simpa [preSum, shiftV] using this
  · rw [preSum_shift]
    exact hQ s' t' (hm.drop_new (Nat.le_succ _))
end
end Mine
end
section
open PySem PySem.W PyProof.Rows PySem.SeqAt PySem.Spec
set_option autoImplicit false
namespace Mine
variable {c : Cx} {K : Frag} {F : Frm}
structure TabOk (c : Cx) (cc P : Addr) : Prop where
  mem : P ∈ c.tabs
  at0 : ∃ c₀ ps₀, c.h0.TableAt c₀ P ps₀
  ne : P ≠ cStatics
  get : ∀ g h, c.tp g h → ∃ ps, h.IsCode cc P ps ∧ h.TableAt cc P ps
  put : ∀ g h h' ps, c.tp g h → Heap.ExtBut P h h' → h'.IsCode cc P ps → h'.TableAt cc P ps → c.tp g h'
theorem Wd.table {al : List Acc} {g : Gh} {s : Shared} {cc P : Addr} {ps more : Array Value} {h' : Heap} {tk : Nat} (R : Wd c al g s) (T : TabOk c cc P) (ht : s.heap.TableAt cc P ps) (hi' : h'.IsCode cc P (ps ++ more)) (ht' : h'.TableAt cc P (ps ++ more)) (hx : Heap.ExtBut P s.heap h') :
    Wd c al g { s with heap := h', toks := tk } ∧ Go g g s.heap h' := by
  obtain ⟨c₀, ps₀, h0⟩ := T.at0
  have hP : s.heap.get? P = some { cls := .none, data := .fields ps } := ht.2
  have hP' : h'.get? P = some { cls := .none, data := .fields (ps ++ more) } := ht'.2
  have hk : ∀ b o, b ≠ P → s.heap.get? b = some o → h'.get? b = some o := fun b o q e => hx b o q e
  have low : P < c.h0.objs.size := R.tlow T.mem
  have hmu : ∀ b, g.mu b → b ≠ P := fun b m q => Nat.lt_irrefl _ (Nat.lt_of_lt_of_le low (q ▸ (R.mub b m).1))
  have G : Go g g s.heap h' := ⟨fun b o _ hc e => hk b o (fun q => by subst q; rw [hP] at e; cases e; exact hc rfl) e, fun _ _ _ q => q, fun _ _ e => e, fun _ _ e => e⟩
  refine ⟨⟨fun b o hb e => hk b o (fun q => hb (q ▸ T.mem)) (R.base b o hb e), R.old.step_table h0 ht ht' hx T.ne, fun Q hQ => ⟨(R.tabc Q hQ).1, fun o e => ?_⟩, T.put _ _ _ _ R.tp hx hi' ht', fun b q => ⟨(R.mub b q).1, let ⟨o, e⟩ := (R.mub b q).2; ⟨o, hk b o (hmu b q) e⟩⟩, R.os, R.gens, R.len, R.rmu, R.rnd,
    fun i a A e1 e2 => (R.accs i a A e1 e2).go G fun o e => hk a o (hmu a (R.rmu a (List.mem_of_getElem? e1))) e⟩, G⟩
  by_cases hq : Q = P
  · subst hq
    have e' : h'.get? Q = some o := e
    rw [hP'] at e'; cases e'; rfl
  · obtain ⟨⟨o₀, z⟩, q⟩ := R.tabc Q hQ
    obtain ⟨o₁, e₁⟩ := R.old.there Q o₀ z
    have e₂ := hk Q o₁ hq e₁
    have e' : h'.get? Q = some o := e
    rw [e₂] at e'; cases e'
    exact q _ e₁
theorem Rel.table {σ : MS} {g : Gh} {s : Shared} {cc P : Addr} {ps more : Array Value} {h' : Heap} {tk : Nat} (R : Rel c F σ g s) (T : TabOk c cc P) (ht : s.heap.TableAt cc P ps) (hi' : h'.IsCode cc P (ps ++ more)) (ht' : h'.TableAt cc P (ps ++ more)) (hx : Heap.ExtBut P s.heap h') :
    Rel c F σ g { s with heap := h', toks := tk } ∧ Ext c (F.W g) g g s.heap h' := by
  obtain ⟨W', G⟩ := R.wd.table (tk := tk) T ht hi' ht' hx
  have hP' : h'.get? P = some { cls := .none, data := .fields (ps ++ more) } := ht'.2
  have hk : ∀ b o, b ≠ P → s.heap.get? b = some o → h'.get? b = some o := fun b o q e => hx b o q e
  have low : P < c.h0.objs.size := R.wd.tlow T.mem
  have hmu : ∀ b, g.mu b → b ≠ P := fun b m q => Nat.lt_irrefl _ (Nat.lt_of_lt_of_le low (q ▸ (R.wd.mub b m).1))
  have hl : ∀ o, s.heap.get? F.env.locals = some o → h'.get? F.env.locals = some o := fun o e => hk _ o (hmu _ (R.wmu _ R.fo.wl)) e
  have hc : ∀ y b, F.env.cells.lookup y = some b → ∀ o, s.heap.get? b = some o → h'.get? b = some o := fun y b e o he => hk b o (fun q => R.ctab e (q ▸ T.mem)) he
  refine ⟨⟨W', R.fo, ?_, fun j x d e1 e2 => ?_, fun x b e => ?_, R.wmu, R.blen, R.bmu, R.bnd, fun j b l e1 e2 => ?_⟩,
    fun b o' _ t e => hk b o' (fun q => t (q ▸ T.mem)) e, fun b o e => ?_, fun _ _ _ q => q, fun _ _ _ q => q, ⟨[], by simp, by simp⟩, ⟨[], by simp, by simp⟩⟩
  · obtain ⟨m, hn⟩ := R.loc
    exact ⟨m, hn.at' hl⟩
  · obtain ⟨v, V, dn⟩ := R.vars j x d e1 e2
    exact ⟨v, V.at hl hc, dn.go G⟩
  · obtain ⟨m, v, o, ho, r⟩ := R.cellx x b e
    exact ⟨m, v, o, hc x b e o ho, r⟩
  · obtain ⟨vs', n', q1, q2⟩ := R.box j b l e1 e2
    exact ⟨vs', n', hk b _ (hmu b (R.bmu b (List.mem_of_getElem? e1))) q1, q2.go G⟩
  · by_cases hq : b = P
    · subst hq; exact ⟨_, hP'⟩
    · exact ⟨o, hk b o hq e⟩
theorem wp_genCode {A : Around} {s : Shared} {σ : MS} {g : Gh} {cc P : Addr} {pos : Pos} {qn : Str} {scope : Scope} {Q : Value → Shared → Prop} {E : Value → Shared → Prop} (R : Rel c F σ g s) (T : TabOk c cc P) (hcode : F.env.code = .ref cc)
    (hQ : ∀ code s', Rel c F σ g s' → s'.gens = s.gens → Ext c (F.W g) g g s.heap s'.heap → Q code s') : wpAny (model c.prog c.w) A (genexprCode F.env pos qn scope) Q E s := by
  obtain ⟨ps, hi, ht⟩ := T.get _ _ R.wd.tp
  cases hf : codeAmong pos ps.toList with
  | some c' => exact wpAny_genexprCode_hit hcode hi hf (hQ _ s R rfl (Ext.refl ..))
  | none =>
    refine wpAny_genexprCodeX hcode hi ht hf fun c' h' tk hx _ _ hi' _ ht' _ => ?_
    obtain ⟨R', x'⟩ := R.table (tk := tk) T ht hi' ht' hx
    exact hQ _ _ R' rfl x'
end Mine
end
section
open PySem PySem.W PyProof.Rows PySem.SeqAt PySem.Spec
set_option autoImplicit false
namespace Mine
variable {c : Cx} {K : Frag} {F : Frm}
theorem find_size {C : Addr} {cd : ClassData} {hs : Int} {t u : Tok} {i : Int} {k : Nat} (hc : clsIn K C = some cd) (hd : cd.hasDict = true) (hf : findIn K (.ref C) "_initial_size" = some none) : findObj K C (some (accDct hs t u i k)) "_initial_size" = some (.value (.int i u)) := by
  unfold findObj
  rw [hc, Option.bind_some, hf, Option.bind_some]
  show ((W.ownOf cd (some (accDct hs t u i k)) "_initial_size").bind _) = _
  unfold W.ownOf
  rw [hd, if_pos rfl]
  rfl
end Mine
end
section
open PySem PySem.W PyProof.Rows PySem.SeqAt PySem.Spec
set_option autoImplicit false
namespace Mine
variable {c : Cx}
theorem len_call {A : Around} {E : Value → Shared → Prop} {s : Shared} {env : Env} {m : Str → Option Value} {x y : Str} {z : Str} {t : Tok} {p1 p2 p3 : Pos} {Q : Value → Shared → Prop} (hk : env.scope.kind = .function) (hl : env.kindOf "len" = some .globalImplicit) (hx : env.kindOf x = some .local)
    (hg : s.heap.Ns env.globals c.mg) (hmg : c.mg "len" = none) (hb : s.heap.Ns env.builtins c.mb) (hmb : c.mb "len" = some (.builtin "len")) (hn : s.heap.Ns env.locals m) (hv : m x = some (.str z t)) (hz : z.length ≤ 1000000)
    (hst : starEach [.Name x p2] env = (false, eval (.Name x p2) env) :: starEach [] env) (hp : (backTo p3 (starEach [.Name x p2] env)).any (·.1) = false) (hd : (x == ("__debug__" : Str)) = false)
    (h : ∀ tk t', Q (.int z.length t') { s with toks := tk }) : wpAny (model c.prog c.w) A (eval (.Call (.Name "len" p1) [.Name x p2] [] p3) env) Q E s := by
  refine wpAny_Call_NameR (Calls.Name_function_global hk hl (Calls.loadGlobal_builtin hg hmg hb hmb (Calls.callWith_builtin hp ?_)) (by decide +kernel))
  have h1 : wpAny (model c.prog c.w) A (spliced (backTo p3 (starEach [.Name x p2] env))) (fun vs s' => wpAny (model c.prog c.w) A (call (.builtin "len") vs) Q E s') E s := by
    refine wpAny_items_cons (wpAny_Name (wpAny_loadName_local hk hx hn hv (wpAny_items_nil ?_)) hd) hst
    exact PySem.P.len_str (by omega) (h _ _)
  rw [hst] at h1 ⊢
  exact Calls.evalArgs_plain h1
end Mine
end
section
open PySem PySem.W PyProof.Rows PySem.SeqAt PySem.Spec
set_option autoImplicit false
namespace Mine
variable {c : Cx} {K : Frag} {F : Frm}
theorem passing_all (n : Nat) : passing (fun _ => true) n 0 = List.range n := by unfold passing; simp
theorem range_get {n j i : Nat} (h : (List.range n)[j]? = some i) : j = i ∧ j < n := by
  obtain ⟨hl, e⟩ := List.getElem?_eq_some_iff.mp h
  rw [List.getElem_range] at e
  exact ⟨e, by simpa using hl⟩
theorem parts_at {g : Gh} {h : Heap} {vs : List Value} {l : List (Str × Str)} (r : DenAll g h vs (l.map part)) : ∃ f : Nat → Addr × Array Value,
    ∀ j, (∀ p : Str × Str, l[j]? = some p → vs[j]? = some (.ref (f j).1) ∧ h.IsTuple (f j).1 (f j).2 ∧ ∃ t u, (f j).2 = #[.str p.1 t, .str p.2 u]) ∧ ∃ va vb, (f j).2 = #[va, vb] := by
  refine Classical.axiomOfChoice (r := fun (j : Nat) (q : Addr × Array Value) => (∀ p : Str × Str, l[j]? = some p → vs[j]? = some (.ref q.1) ∧ h.IsTuple q.1 q.2 ∧ ∃ t u, q.2 = #[.str p.1 t, .str p.2 u]) ∧ ∃ va vb, q.2 = #[va, vb]) fun j => ?_
  cases e : l[j]? with
  | none => exact ⟨(0, #[.none, .none]), fun p q => (by cases q), _, _, rfl⟩
  | some p =>
    obtain ⟨v, ev, dn⟩ := r.get (k := j) (d := part p) (by rw [List.getElem?_map, e]; rfl)
    cases dn with
    | @tup a ws n _ h1 _ r2 =>
      cases r2 with
      | cons d1 r2 =>
        cases r2 with
        | cons d2 r2 =>
          cases r2
          cases d1 with
          | str _ t =>
            cases d2 with
            | str _ u => exact ⟨(a, #[.str p.1 t, .str p.2 u]), fun q eq => (by cases eq; exact ⟨ev, ⟨_, h1, rfl, n, rfl⟩, t, u, rfl⟩), _, _, rfl⟩
theorem Rel.gens {σ : MS} {g : Gh} {s : Shared} {gs : Array GenState} (R : Rel c F σ g s) (h : AllBare gs) : Rel c F σ g { s with gens := gs } :=
  ⟨⟨R.wd.base, R.wd.old, R.wd.tabc, R.wd.tp, R.wd.mub, R.wd.os, h, R.wd.len, R.wd.rmu, R.wd.rnd, R.wd.accs⟩, R.fo, R.loc, R.vars, R.cellx, R.wmu, R.blen, R.bmu, R.bnd, R.box⟩
noncomputable def GenReady (c : Cx) (F : Frm) (A : Around) (g : Gh) (h₀ : Heap) (s : Shared) (a : Addr) (n : Nat) (P : Nat → Value → Prop) : Prop :=
  ∃ fp wr wr' gi St, WalksS c.prog c.w A.in4 a fp wr (GenOnlyQ gi) n P St ∧ St 0 s ∧ (∀ b ∈ fp, b < s.heap.objs.size) ∧ a ∈ fp ∧ (∀ i s', St i s' → s'.TypeIs (.ref a) "generator") ∧ Priv F g wr' ∧ (∀ b ∈ wr', h₀.get? b = none) ∧ ∀ b o, b ∉ wr' → s.heap.get? b = some o → b ∉ wr
structure GenOk (c : Cx) (K : Frag) (F : Frm) (cc P bm : Addr) (scope : Scope) (cl : List (Str × Addr)) (xa xb : Str) : Prop where
  AK : AccK c K
  sub : mroIn K c.C (.type "list") = some true
  itr : findIn K (.ref c.C) "__iter__" = some (some (.builtin "list.__iter__"))
  T : TabOk c cc P
  code : F.env.code = .ref cc
  co : scope.isCoroutine = false
  clos : closureFor scope F.env = pure cl
  cell : ∀ y ∈ scope.names, y.2 ≠ .cell
  dot : scope.names.lookup (".0" : Str) = some NameKind.local
  hxa : scope.names.lookup xa = some .local
  hxb : scope.names.lookup xb = some .local
  hab : xa ≠ xb
  kind : scope.kind = .function
  bi : c.mg "__builtins__" = some (.ref bm)
  bm : bm ∉ c.tabs ∧ bm ≠ builtinsNs ∧ ∃ o, c.h0.get? bm = some o ∧ o.cls = .type "module" ∧ o.dict = some builtinsNs ∧ o.data = .plain
theorem wp_genAcc {cc P bm : Addr} {scope : Scope} {cl : List (Str × Addr)} {xa xb : Str} {elt iter : Expr} {pa pb pt pos : Pos} {kt : Nat} {mo : Mx D} {A : Around} {s : Shared} {σ σ0 : MS} {g : Gh} {i : Nat} {Ac : Acc} {f : Str → Str → Value → Prop} {Q : Value → Shared → Prop} {E : Value → Shared → Prop}
    (GO : GenOk c K F cc P bm scope cl xa xb) (ho : IE c F iter mo) (room : Room A F.k) (R : Rel c F σ g s) (hm : mo σ = some (.acc i, σ0)) (hA : σ0.a[i]? = some Ac) (hdep : A.depth < recursionLimit)
    (helt : ∀ (A' : Around) (E' : Value → Shared → Prop) (C : Addr) (code : Value) (p : Str × Str) (t u : Tok) (s₂ : Shared) (m₂ : Str → Option Value), A'.handled = none → p ∈ Ac.2 → s₂.heap.Ns C m₂ → m₂ xa = some (.str p.1 t) → m₂ xb = some (.str p.2 u) → s₂.heap.Ns mainGlobals c.mg → s₂.heap.Ns builtinsNs c.mb →
      wpAny (model c.prog c.w) A' (eval elt (genEnv scope cl C code builtinsNs F.env)) (fun v s₃ => f p.1 p.2 v ∧ Keeps s₂ s₃) E' s₂)
    (hs : ∀ x, genFold iter F.env x = pure x)
    (hQ : ∀ a s' g', Rel c F σ0 g' s' → Ext c (F.W g) g g' s.heap s'.heap → GenReady c F A g' s.heap s' a Ac.2.length (fun j v => ∃ p, Ac.2[j]? = some p ∧ f p.1 p.2 v) → Q (.ref a) s') :
    wpAny (model c.prog c.w) A (eval (.GeneratorExp elt [⟨.Tuple [.Name xa pa, .Name xb pb] kt pt, iter, [], 0⟩] scope pos) F.env) Q E s := by
  refine wpAny_GeneratorExp_walksQT room.hh GO.co GO.clos GO.cell GO.dot GO.hxa GO.hxb GO.hab GO.kind hdep (ho A s σ g _ σ0 room R hm _ _ fun v s1 g1 R1 d1 x1 => ?_) hs
  obtain ⟨a, rfl, hr⟩ := d1.accI
  obtain ⟨Ac', dx, vs, n, kk, hsh, t, u, e3, hoa, _, _, dn, I⟩ := R1.wd.acc hr
  rw [hA] at e3; cases e3
  refine iter_sub (GO.AK.at R1.wd) I GO.sub GO.itr ?_
  have k2 : ∀ b o, s1.heap.get? b = some o → (s1.heap.push { cls := .type "list_iterator", data := .fields #[.ref a, .int 0 0] }).get? b = some o := fun b o e => Heap.get?_push_of_some _ e
  generalize hJ : s1.heap.objs.size = J
  have gJ : (s1.heap.push { cls := .type "list_iterator", data := .fields #[.ref a, .int 0 0] }).get? J = some { cls := .type "list_iterator", data := .fields #[.ref a, .int 0 0] } := hJ ▸ Heap.get?_push_size _ rfl
  obtain ⟨R2, p2, x2, _⟩ := R1.fresh (tk := s1.toks) (wr := [J]) k2 (fun b hb => by simp at hb; subst hb; exact Nat.le_of_eq hJ) (fun b hb => by simp at hb; subst hb; exact ⟨_, gJ⟩)
  have haJ : a ≠ J := fun q => by have := Heap.lt_size hoa; rw [q, ← hJ] at this; exact Nat.lt_irrefl _ this
  refine ⟨R2.wd.nol, wp_genCode R2 GO.T GO.code fun code s3 R3 hg3 x3 => ?_⟩
  obtain ⟨bmt, bmn, ob, hob, b1, b2, b3⟩ := GO.bm
  refine wpAny_builtinsFor (by rw [R3.fo.glob]; exact R3.wd.gns) GO.bi bmn (R3.wd.base _ _ bmt hob) b1 b2 b3 ?_
  have tJ : J ∉ c.tabs := priv_low R2 p2 J (by simp)
  have gJ3 : s3.heap.get? J = some { cls := .type "list_iterator", data := .fields #[.ref a, .int 0 0] } := x3.keep J _ (p2 J (by simp)).2.1 tJ gJ
  obtain ⟨Ac3, dx3, vs3, n3, kk3, hs3, t3, u3, e3, hoa3, _, _, dn3, I3⟩ := R3.wd.acc (g := g1.plus [J]) hr
  rw [hA] at e3; cases e3
  obtain ⟨ft, hft⟩ := parts_at dn3
  have hlen : vs3.length = Ac.2.length := by simpa using dn3.length
  have at_ : ∀ j, j < vs3.toArray.size → ∃ p, Ac.2[j]? = some p := fun j hj => ⟨_, List.getElem?_eq_getElem (by simp at hj; omega)⟩
  have htI : ∀ j, j < vs3.toArray.size → (ft j).1 ≠ J := fun j hj q => by
    obtain ⟨p, hp⟩ := at_ j hj
    obtain ⟨_, ⟨o, ho', hc', _⟩, _⟩ := (hft j).1 p hp
    rw [q, gJ3] at ho'; cases ho'; simp at hc'
  have lowJ : ∀ b m, s3.heap.Ns b m → b ≠ J := fun b m hn q => by
    obtain ⟨o, es, ep, ho', hd', _⟩ := hn
    rw [q, gJ3] at ho'; cases ho'; cases hd'
  refine ⟨J, _, _, _, _, _, _, (fun _ => true), (fun j v => ∃ p, Ac.2[j]? = some p ∧ f p.1 p.2 v), rfl, (fun A' hA' => walksAcc hA' haJ (ol := accO c.C dx3 vs3 n3) rfl (fun j => (ft j).1) (fun j => (ft j).2) (fun j hj => ?_) htI), (fun j v hv => ?_), ⟨⟨_, gJ3, rfl, rfl⟩, hoa3, fun j hj => ?_⟩, (fun b hb => ?_), R3.wd.nol, ?_, (fun href hk => ⟨fun A' E' j va vb s₂ m₂ _ _ _ _ _ _ => ?_, fun A' E' j va vb s₂ m₂ hA' hPt _ hn ea eb hkp => ?_⟩), (fun a' h₅ tk gs hgb ha' hsz5 hk5 W5 G5 => ?_)⟩
  · obtain ⟨p, hp⟩ := at_ j hj
    have := ((hft j).1 p hp).1
    simpa using this
  · have := (hft j).2; rw [← (show v = (ft j).2 from hv.2)] at this; exact this
  · obtain ⟨p, hp⟩ := at_ j hj
    exact ((hft j).1 p hp).2.1
  · rcases List.mem_cons.mp hb with rfl | hb
    · exact Heap.lt_size gJ3
    rcases List.mem_cons.mp hb with rfl | hb
    · exact Heap.lt_size hoa3
    · obtain ⟨j, hj, rfl⟩ := List.mem_map.mp hb
      obtain ⟨p, hp⟩ := at_ j (List.mem_range.mp hj)
      obtain ⟨_, ⟨o, ho', _⟩, _⟩ := (hft j).1 p hp
      exact Heap.lt_size ho'
  · obtain ⟨mc, hnc, _⟩ := R3.wd.nol
    intro q
    simp at q
    exact lowJ _ _ hnc q
  · exact wpAny_tests_nil ⟨rfl, _, _, rfl, fun _ _ e => e⟩
  · obtain ⟨hj, hv⟩ := hPt
    obtain ⟨p, hp⟩ := at_ j hj
    obtain ⟨_, _, t, u, hv'⟩ := (hft j).1 p hp
    have hv2 : (#[va, vb] : Array Value) = #[.str p.1 t, .str p.2 u] := hv.trans hv'
    have h1 : va = .str p.1 t ∧ vb = .str p.2 u := by simpa using hv2
    rw [h1.1] at ea
    rw [h1.2] at eb
    have ns : ∀ b m, s3.heap.Ns b m → s₂.heap.Ns b m := fun b m hm => hm.at' fun o e => hkp b (List.mem_range.mpr (Heap.lt_size e)) (by simp; exact lowJ b m hm) o (hk b o e)
    refine wpAny_mono (helt A' E' _ _ p t u s₂ m₂ hA' (List.mem_of_getElem? hp) hn ea eb (ns _ _ R3.wd.gns) (ns _ _ R3.wd.bns)) (fun v s' h => ⟨⟨p, hp, h.1⟩, h.2⟩) fun _ _ e => e
  · have hpl : (passing (fun _ => true) vs3.toArray.size 0).length = Ac.2.length := by rw [passing_all]; simp [hlen]
    have W6 : WalksS c.prog c.w A.in4 a' (a' :: s3.heap.objs.size :: List.range s3.heap.objs.size) [s3.heap.objs.size, J] (GenOnlyQ s3.gens.size) Ac.2.length (fun j v => ∃ p, Ac.2[j]? = some p ∧ f p.1 p.2 v) (GenAt c.prog c.w A.in4 a' s3.gens.size s3.heap.objs.size (List.range s3.heap.objs.size) [J] (fun _ => true) vs3.toArray.size (fun j v => ∃ p, Ac.2[j]? = some p ∧ f p.1 p.2 v)) := by
      rw [hpl] at W5
      exact ⟨W5.sub, W5.grefl, W5.gtrans, W5.frame, fun i s Q E hi st hq => W5.item i s Q E hi st fun v s' hp st' mv => hq v s' (by
        obtain ⟨i', e1, p, e2, e3⟩ := hp
        rw [passing_all] at e1
        obtain ⟨rfl, _⟩ := range_get e1
        exact ⟨p, e2, e3⟩) st' mv, W5.done, W5.self⟩
    have fin : ∀ (wC : List Addr), (∀ b ∈ wC, b = s3.heap.objs.size) → (∀ b ∈ wC, ∃ o, h₅.get? b = some o) → (∀ o, h₅.get? s3.heap.objs.size = some o → s3.heap.objs.size ∈ wC) → Q (.ref a') { s3 with gens := s3.gens.push gs, toks := tk, heap := h₅ } := by
      intro wC w1 w2 w3
      obtain ⟨R4, p4, x4, _⟩ := R3.fresh (tk := tk) (h' := h₅) (wr := wC) hk5 (fun b hb => by rw [w1 b hb]; exact Nat.le_refl _) w2
      have R5 := R4.gens (R3.wd.gens.push hgb)
      have p2' : Priv F ((g1.plus [J]).plus wC) [J] := priv_go (priv_go p2 x3 (fun b hb => by simp at hb; subst hb; exact ⟨_, gJ⟩)) x4 (fun b hb => by simp at hb; subst hb; exact ⟨_, gJ3⟩)
      have xx := ((x1.trans x2).trans x3).trans x4
      refine hQ a' _ _ R5 xx ⟨_, _, wC ++ [J], _, _, W6, G5, fun b hb => ?_, List.mem_cons_self .., fun i s' st => ?_, fun b hb => ?_, fun b hb => ?_, fun b o hb e hw => ?_⟩
      · show b < h₅.objs.size
        rw [hsz5]
        rcases List.mem_cons.mp hb with rfl | hb
        · exact Nat.lt_succ_self _
        rcases List.mem_cons.mp hb with rfl | hb
        · exact Nat.lt_succ_of_lt ha'
        · exact Nat.lt_succ_of_lt (Nat.lt_trans (List.mem_range.mp hb) ha')
      · obtain ⟨⟨o, nm, qn, ho', hc', _⟩, _⟩ := st
        exact ⟨o, ho', hc'⟩
      · rcases List.mem_append.mp hb with hb | hb
        · exact p4 b hb
        · exact p2' b hb
      · rcases List.mem_append.mp hb with hb | hb
        · rw [w1 b hb]
          exact none_back ((x1.trans x2).trans x3).there (none_of_size (Nat.le_refl _))
        · simp at hb; subst hb
          exact none_back x1.there (none_of_size (Nat.le_of_eq hJ))
      · rcases List.mem_cons.mp hw with rfl | hw
        · exact hb (List.mem_append_left _ (w3 o e))
        · exact hb (List.mem_append_right _ hw)
    cases hC : h₅.get? s3.heap.objs.size with
    | none => exact fin [] (fun b hb => by simp at hb) (fun b hb => by simp at hb) (fun o e => by rw [hC] at e; cases e)
    | some o => exact fin [s3.heap.objs.size] (fun b hb => by simpa using hb) (fun b hb => by simp at hb; subst hb; exact ⟨o, hC⟩) (fun _ _ => by simp)
end Mine
end
section
open PySem PySem.W PyProof.Rows PySem.SeqAt PySem.Spec
set_option autoImplicit false
namespace Mine
variable {c : Cx} {K : Frag} {F : Frm}
theorem gen_over {σ : MS} {g : Gh} {s s' : Shared} {wr wr' : List Addr} {gi : Nat} (R : Rel c F σ g s) (p : Priv F g wr') (hw : ∀ b o, b ∉ wr' → s.heap.get? b = some o → b ∉ wr) (mv : Moved wr (GenOnlyQ gi) s s') :
    Rel c F σ { g with mu := fun b => g.mu b ∧ b ∉ wr' } s' ∧ ∀ b o, b ∉ wr' → s.heap.get? b = some o → s'.heap.get? b = some o := by
  have hk : ∀ b o, b ∉ wr' → s.heap.get? b = some o → s'.heap.get? b = some o := fun b o q e => mv.heap b o (hw b o q e) e
  have R1 := (R.over (tk := s'.toks) p hk).gens (R.wd.gens.movedS mv)
  obtain ⟨hh, gg, dd, tt, oo⟩ := s'
  have e1 : dd = s.drawn := mv.drawn
  have e2 : oo = s.os := mv.os
  subst e1 e2
  exact ⟨R1, hk⟩
noncomputable def sumParts (l : List (Str × Str)) : Int := (l.map fun p => ((p.1.length + p.2.length : Nat) : Int)).sum
noncomputable def lenOk (A : Acc) : Bool := decide (-(2 ^ 62) ≤ A.1) && decide (A.1 < 2 ^ 62) && decide (A.2.length ≤ 1000000) && A.2.all fun p => decide (p.1.length ≤ 1000000) && decide (p.2.length ≤ 1000000)
theorem preSum_list (l : List (Str × Str)) : ∀ k, k ≤ l.length → preSum (fun j => match l[j]? with | some p => ((p.1.length + p.2.length : Nat) : Int) | none => 0) k = sumParts (l.take k)
  | 0, _ => by simp [preSum, sumParts]
  | k + 1, h => by
    have hk : k < l.length := by omega
    show preSum _ k + (match l[k]? with | some p => ((p.1.length + p.2.length : Nat) : Int) | none => 0) = _
    rw [preSum_list l k (by omega), List.getElem?_eq_getElem hk]
    have ht : l.take (k + 1) = l.take k ++ [l[k]] := by rw [List.take_add_one, List.getElem?_eq_getElem hk]; rfl
    unfold sumParts
    rw [ht, List.map_append, List.sum_append]
    simp only [List.map_cons, List.map_nil, List.sum_cons, List.sum_nil, Int.add_zero]
noncomputable def sumM : Mx D := fun σ => match accAt0 σ with
  | some (_, A) => if lenOk A then some (.int (A.1 + sumParts A.2), σ) else none
  | none => none
theorem IE_accSum {cc P bm : Addr} {scope : Scope} {cl : List (Str × Addr)} {xa xb : Str} {elt : Expr} {cd : ClassData} {pa pb pt gpos ps ps' p pos ap : Pos} {kt : Nat}
    (GO : GenOk c K F cc P bm scope cl xa xb) (hc : clsIn K c.C = some cd) (hd : cd.hasDict = true) (hf : findIn K (.ref c.C) "_initial_size" = some none) (hx : GlobIs c F "sum" (.builtin "sum")) (h0 : F.names[0]? = some ("self" : Str)) (hl0 : F.env.kindOf "self" = some .local)
    (hk : 1 ≤ F.k)
    (helt : ∀ (A' : Around) (E' : Value → Shared → Prop) (C : Addr) (code : Value) (p : Str × Str) (t u : Tok) (s₂ : Shared) (m₂ : Str → Option Value), A'.handled = none → p.1.length ≤ 1000000 → p.2.length ≤ 1000000 → s₂.heap.Ns C m₂ → m₂ xa = some (.str p.1 t) → m₂ xb = some (.str p.2 u) → s₂.heap.Ns mainGlobals c.mg → s₂.heap.Ns builtinsNs c.mb →
      wpAny (model c.prog c.w) A' (eval elt (genEnv scope cl C code builtinsNs F.env)) (fun v s₃ => (∃ t, v = .int ((p.1.length + p.2.length : Nat) : Int) t) ∧ Keeps s₂ s₃) E' s₂)
    (hs : ∀ x, genFold (.Name "self" ps) F.env x = pure x := by intro _; rfl)
    (he : starEach [.GeneratorExp elt [⟨.Tuple [.Name xa pa, .Name xb pb] kt pt, .Name "self" ps, [], 0⟩] scope gpos, .Attribute (.Name "self" ps') "_initial_size" ap] F.env = (false, eval (.GeneratorExp elt [⟨.Tuple [.Name xa pa, .Name xb pb] kt pt, .Name "self" ps, [], 0⟩] scope gpos) F.env) :: starEach [.Attribute (.Name "self" ps') "_initial_size" ap] F.env := by rfl)
    (he2 : starEach [.Attribute (.Name "self" ps') "_initial_size" ap] F.env = (false, eval (.Attribute (.Name "self" ps') "_initial_size" ap) F.env) :: starEach [] F.env := by rfl)
    (hp : (backTo pos (starEach [.GeneratorExp elt [⟨.Tuple [.Name xa pa, .Name xb pb] kt pt, .Name "self" ps, [], 0⟩] scope gpos, .Attribute (.Name "self" ps') "_initial_size" ap] F.env)).any (·.1) = false := by rfl) :
    IE c F (.Call (.Name "sum" p) [.GeneratorExp elt [⟨.Tuple [.Name xa pa, .Name xb pb] kt pt, .Name "self" ps, [], 0⟩] scope gpos, .Attribute (.Name "self" ps') "_initial_size" ap] [] pos) sumM := by
  intro A s σ g d σ' room R hm Q E hQ
  unfold sumM at hm
  split at hm
  · rename_i i Ac e
    split at hm
    · rename_i hok
      cases hm
      obtain ⟨e1, e2⟩ := accAt0_some e
      unfold lenOk at hok
      simp only [Bool.and_eq_true, decide_eq_true_eq, List.all_eq_true] at hok
      obtain ⟨⟨⟨o1, o2⟩, o3⟩, o4⟩ := hok
      refine wpAny_Call_NameR (wp_glob R hx (Calls.callWith_builtin hp ?_) (by decide +kernel))
      have key : wpAny (model c.prog c.w) A (spliced (backTo pos (starEach [.GeneratorExp elt [⟨.Tuple [.Name xa pa, .Name xb pb] kt pt, .Name "self" ps, [], 0⟩] scope gpos, .Attribute (.Name "self" ps') "_initial_size" ap] F.env))) (fun vs s' => wpAny (model c.prog c.w) A (call (.builtin "sum") vs) Q E s') E s := by
        refine wpAny_items_cons (wp_genAcc GO (IE_name 0 h0) room R (by unfold rd; rw [e1]) e2 (by have := room.depth; omega) (f := fun x y v => ∃ t, v = .int ((x.length + y.length : Nat) : Int) t) (fun A' E' C code p t u s₂ m₂ hA' hpm hn ea eb hg hb => helt A' E' C code p t u s₂ m₂ hA' (o4 p hpm).1 (o4 p hpm).2 hn ea eb hg hb) hs fun a s1 g1 R1 x1 GR => ?_) he
        obtain ⟨v, V, dn⟩ := R1.vars 0 _ _ h0 e1
        obtain ⟨b, rfl, hr⟩ := dn.accI
        obtain ⟨Ac', dx, vs, n, kk, hsh, t, u, e3, _, _, _, _, I⟩ := R1.wd.acc hr
        rw [e2] at e3; cases e3
        refine wpAny_items_cons ?_ he2
        rw [arm_eval_Attribute]
        rcases V with ⟨_, mm, hn, ev⟩ | ⟨kk, _⟩
        · refine wpAny_bind (wpAny_Name (wpAny_loadName_local R1.fo.kind hl0 hn ev (wpAny_bind (wpAny_standAt (wpAny_bind (wpAny_holding ?_))))) (by decide +kernel))
          refine get_valueL (GO.AK.at R1.wd) I GO.AK.ga GO.AK.gt GO.AK.isl (find_size hc hd hf) rfl (wpAny_bind (wpAny_pure (wpAny_pure (wpAny_items_nil ?_))))
          obtain ⟨fp, wr, wr', gi, St, W, st0, hfp, hafp, hT, pv, wn, hww⟩ := GR
          have W1 : WalksS c.prog c.w A.in1 a fp wr (GenOnlyQ gi) Ac.2.length _ St := W.of_in1.of_in1.of_in1
          have st1 := W1.frame 0 s1 s1.heap (s1.toks + 1) st0 (Nat.le_succ _) (fun _ _ _ e => e)
          refine call_sum_start (by simp only [Bool.and_eq_true, decide_eq_true_eq]; omega) (W1.self 0 _ _ _ st1 ⟨a, fp, wr, _, _, _, St, (fun j => match Ac.2[j]? with | some p => ((p.1.length + p.2.length : Nat) : Int) | none => 0), rfl, W1, st1, hfp, fun j v hv => ?_, fun s' t' mv => ?_⟩)
          · obtain ⟨q, hq, t, rfl⟩ := hv
            exact ⟨t, by simp only [hq]⟩
          · rw [preSum_list Ac.2 _ (Nat.le_refl _), List.take_length]
            obtain ⟨R2, hk2⟩ := gen_over (R1.tok (tk := s1.toks + 1)) pv hww mv
            refine hQ _ s' _ R2 (.int _ _) ?_
            have y := x1.skip wn hk2
            have nw : ∀ b o, s.heap.get? b = some o → b ∉ wr' := fun b o e q => by have := wn b q; rw [e] at this; cases this
            exact ⟨y.keep, y.there, fun b o e q => y.mu1 b o e q.1, fun b o e q => ⟨y.mu2 b o e q, nw b o e⟩, y.rho, y.bet⟩
        · rcases kk with kk | kk <;> (rw [hl0] at kk; cases kk)
      rw [he] at key ⊢
      exact Calls.evalArgs_plain key
    · cases hm
  · cases hm
end Mine
end
section
open PySem PySem.W PyProof.Rows PySem.SeqAt PySem.Spec
set_option autoImplicit false
namespace Mine
variable {c : Cx} {K : Frag} {F : Frm}
noncomputable def textsOf (l : List (Str × Str)) : List Str := l.map fun p => Txt.join "" [p.1, p.2]
noncomputable def strM : Mx D := fun σ => match accAt0 σ with
  | some (_, A) => if A.2.length ≤ 1000000 ∧ (∀ p ∈ A.2, p.1.length ≤ 1000000 ∧ p.2.length ≤ 1000000) ∧ JoinOk "" (textsOf A.2) = true then some (.str (Txt.join "" (textsOf A.2)), σ) else none
  | none => none
theorem texts_eq {l : List (Str × Str)} {vs : List (Str × Tok)} (hl : vs.length = l.length) (h : ∀ (j : Nat) (q : Str × Tok), vs[j]? = some q → ∃ p, l[j]? = some p ∧ q.1 = Txt.join "" [p.1, p.2]) : vs.map (·.1) = textsOf l := by
  apply List.ext_getElem?
  intro j
  unfold textsOf
  rw [List.getElem?_map, List.getElem?_map]
  cases e : vs[j]? with
  | none =>
    have : l[j]? = none := by
      rw [List.getElem?_eq_none_iff] at e ⊢; omega
    rw [this]; rfl
  | some q =>
    obtain ⟨p, e1, e2⟩ := h j q e
    rw [e1]
    simp [e2]
theorem IE_accJoin {cc P bm : Addr} {scope : Scope} {cl : List (Str × Addr)} {xa xb : Str} {elt : Expr} {te : Tok} {pa pb pt gpos ps p pos apos : Pos} {kt : Nat}
    (GO : GenOk c K F cc P bm scope cl xa xb) (hx : GlobIs c F "EMPTYSTRING" (.str "" te)) (h0 : F.names[0]? = some ("self" : Str)) (hk : 1 ≤ F.k)
    (helt : ∀ (A' : Around) (E' : Value → Shared → Prop) (C : Addr) (code : Value) (p : Str × Str) (t u : Tok) (s₂ : Shared) (m₂ : Str → Option Value), A'.handled = none → p.1.length ≤ 1000000 → p.2.length ≤ 1000000 → s₂.heap.Ns C m₂ → m₂ xa = some (.str p.1 t) → m₂ xb = some (.str p.2 u) → s₂.heap.Ns mainGlobals c.mg → s₂.heap.Ns builtinsNs c.mb →
      wpAny (model c.prog c.w) A' (eval elt (genEnv scope cl C code builtinsNs F.env)) (fun v s₃ => (∃ t, v = .str (Txt.join "" [p.1, p.2]) t) ∧ Keeps s₂ s₃) E' s₂)
    (hs : ∀ x, genFold (.Name "self" ps) F.env x = pure x := by intro _; rfl)
    (hbase : attributeBase (.Name "EMPTYSTRING" p) "join" F.env (eval (.Name "EMPTYSTRING" p) F.env) = eval (.Name "EMPTYSTRING" p) F.env := by rfl)
    (hfew : ((backTo pos (starEach [.GeneratorExp elt [⟨.Tuple [.Name xa pa, .Name xb pb] kt pt, .Name "self" ps, [], 0⟩] scope gpos] F.env)).all (fun x => !x.1) && (backToKw pos (keywordEach [] F.env)).all (fun x => x.1.isSome)
      && decide (([.GeneratorExp elt [⟨.Tuple [.Name xa pa, .Name xb pb] kt pt, .Name "self" ps, [], 0⟩] scope gpos] : List Expr).length + ([] : List Keyword).length + (if ([] : List Keyword).isEmpty then 0 else 1) < 30)) = true := by rfl)
    (hline : (apos.endLine == pos.line) = true := by rfl)
    (he : starEach [.GeneratorExp elt [⟨.Tuple [.Name xa pa, .Name xb pb] kt pt, .Name "self" ps, [], 0⟩] scope gpos] F.env = (false, eval (.GeneratorExp elt [⟨.Tuple [.Name xa pa, .Name xb pb] kt pt, .Name "self" ps, [], 0⟩] scope gpos) F.env) :: starEach [] F.env := by rfl)
    (hp : (backTo pos (starEach [.GeneratorExp elt [⟨.Tuple [.Name xa pa, .Name xb pb] kt pt, .Name "self" ps, [], 0⟩] scope gpos] F.env)).any (·.1) = false := by rfl) :
    IE c F (.Call (.Attribute (.Name "EMPTYSTRING" p) "join" apos) [.GeneratorExp elt [⟨.Tuple [.Name xa pa, .Name xb pb] kt pt, .Name "self" ps, [], 0⟩] scope gpos] [] pos) strM := by
  intro A s σ g d σ' room R hm Q E hQ
  unfold strM at hm
  split at hm
  · rename_i i Ac e
    split at hm
    · rename_i hok
      cases hm
      obtain ⟨e1, e2⟩ := accAt0_some e
      obtain ⟨o3, o4, o5⟩ := hok
      refine wpAny_Call_method hbase hfew hline PySem.F.plainAttrs_str PySem.F.slot_str_join PySem.F.type_str_join (wp_glob R hx ⟨typeIs_str _ _ _, (fun _ e => (by cases e)), Calls.callWith_builtin hp ?_⟩ (by decide +kernel))
      have key : wpAny (model c.prog c.w) A (spliced (backTo pos (starEach [.GeneratorExp elt [⟨.Tuple [.Name xa pa, .Name xb pb] kt pt, .Name "self" ps, [], 0⟩] scope gpos] F.env))) (fun vs s' => wpAny (model c.prog c.w) A (call (.builtin "str.join") (.str "" te :: vs)) Q E s') E s := by
        refine wpAny_items_cons (wp_genAcc GO (IE_name 0 h0) room R (by unfold rd; rw [e1]) e2 (by have := room.depth; omega) (f := fun x y v => ∃ t, v = .str (Txt.join "" [x, y]) t) (fun A' E' C code p t u s₂ m₂ hA' hpm hn ea eb hg hb => helt A' E' C code p t u s₂ m₂ hA' (o4 p hpm).1 (o4 p hpm).2 hn ea eb hg hb) hs fun a s1 g1 R1 x1 GR => wpAny_items_nil ?_) he
        obtain ⟨fp, wr, wr', gi, St, W, st0, hfp, hafp, hT, pv, wn, hww⟩ := GR
        refine SC.joinGen W.of_in1.of_in1 hT st0 hfp hafp (fun j v hv => ?_) (fun s' l mv hit => ?_) (by rw [sizeLine_eq]; omega)
        · obtain ⟨q, _, t, rfl⟩ := hv
          exact ⟨_, t, rfl⟩
        · have hll : l.length = Ac.2.length := by simpa [strValues] using hit.1
          have htx : l.map (·.1) = textsOf Ac.2 := texts_eq hll fun j q hq => by
            obtain ⟨p, e1, t, e2⟩ := hit.2 j (.str q.1 q.2) (by simp [strValues, hq])
            exact ⟨p, e1, (by injection e2)⟩
          rw [htx]
          refine ⟨o5, fun t' k => ?_⟩
          obtain ⟨R2, hk2⟩ := gen_over R1 pv hww mv
          refine hQ _ _ _ (R2.tok (tk := k)) (.str _ _) ?_
          have y := x1.skip wn hk2
          have nw : ∀ b o, s.heap.get? b = some o → b ∉ wr' := fun b o e q => by have := wn b q; rw [e] at this; cases this
          exact ⟨y.keep, y.there, fun b o e q => y.mu1 b o e q.1, fun b o e q => ⟨y.mu2 b o e q, nw b o e⟩, y.rho, y.bet⟩
      rw [he] at key ⊢
      exact Calls.evalArgs_plain key
    · cases hm
  · cases hm
end Mine
end
section
open PySem PySem.W PyProof.Rows PySem.SeqAt PySem.Spec
set_option autoImplicit false
namespace Mine
variable {c : Cx} {K : Frag} {F : Frm}
theorem Room.in1 {A : Around} {k : Nat} (r : Room A (k + 1)) : Room A.in1 k := ⟨by have := r.depth; show A.depth + k < _; omega, by have := r.units; show A.units + 1 + 40 * k + 200 < _; omega, r.hh, r.fr, r.gd⟩
noncomputable def lenA (q : List D → List Acc → Option (D × List Acc)) (ds : List D) : Mx D := fun σ => match ds with
  | [.acc i] => match callM q [.acc i] σ with
    | some (.int n, σ') => if 0 ≤ n ∧ n < 2 ^ 62 then some (.int n, σ') else none
    | _ => none
  | _ => lenM ds σ
theorem op_lenA {fn : Addr} {k : Nat} {q : List D → List Acc → Option (D × List Acc)} (AK : AccK c K) (hf : findIn K (.ref c.C) "__len__" = some (some (.ref fn))) (ht : typeIn K (.ref fn) = some (.type "function")) (hc : IFn c (.ref fn) k q) (hk : k + 1 ≤ F.k) : OpN c F (.builtin "len") (lenA q) := by
  intro A s σ g vs ds d σ' room R r hp Q E P
  unfold lenA at hp
  split at hp
  · rename_i i
    split at hp
    · rename_i n σ1 hcm
      split at hp
      · rename_i hz
        cases hp
        obtain ⟨_, rfl, dn⟩ := r.oneI
        obtain ⟨a, rfl, hr⟩ := dn.accI
        obtain ⟨Ac, dx, ws, m, kk, hsh, t, u, _, _, _, _, _, I⟩ := R.wd.acc hr
        refine Calls.call_function_entry kind_len plain_len entry_len (args_len1 _) ?_
        unfold Builtin.«len»
        refine wpAny_bind (m := oneArg "len" _) (wpAny_pure ?_)
        refine wpAny_bind (m := callSpecial? (.ref a) (Str.ofString "__len__")) (special_fn (AK.at R.wd) I hf ht ?_)
        let F' : Frm := { F with k := k }
        have R' : Rel c F' σ g s := ⟨R.wd, ⟨R.fo.kind, R.fo.glob, R.fo.bi, R.fo.wl, R.fo.apart, R.fo.nod⟩, R.loc, R.vars, R.cellx, R.wmu, R.blen, R.bmu, R.bnd, R.box⟩
        refine wp_callFn (F := F') hc (Nat.le_refl _) ((room.le hk).in1) R' (.cons (.acc hr) .nil) hcm fun v s1 g1 R1 d1 x1 => ?_
        obtain ⟨t1, rfl⟩ := d1.intI
        have R1' : Rel c F _ g1 s1 := ⟨R1.wd, ⟨R1.fo.kind, R1.fo.glob, R1.fo.bi, R1.fo.wl, R1.fo.apart, R1.fo.nod⟩, R1.loc, R1.vars, R1.cellx, R1.wmu, R1.blen, R1.bmu, R1.bnd, R1.box⟩
        refine wpAny_bind (wpAny_holding (wpAny_pure ?_))
        refine wpAny_bind (wpAny_letGo ?_)
        show wpAny _ _ (if n < 0 then _ else _) _ _ _
        rw [if_neg (by omega)]
        show wpAny _ _ (if n ≥ 2 ^ 63 then _ else _) _ _ _
        rw [if_neg (by omega)]
        exact wpAny_bind (wpAny_mkInt (wpAny_pure ⟨_, rfl, P _ _ g1 R1'.tok (.int _ _) x1⟩))
      · cases hp
    · cases hp
  · exact op_len A s σ g vs _ d σ' room R r hp Q E P
end Mine
end
section
open PySem PySem.W PyProof.Rows PySem.SeqAt PySem.Spec
set_option autoImplicit false
namespace Mine
variable {c : Cx} {K : Frag} {F : Frm}
noncomputable def strA (q : List D → List Acc → Option (D × List Acc)) (ds : List D) : Mx D := fun σ => match ds with
  | [.acc i] => match callM q [.acc i] σ with
    | some (.str x, σ') => some (.str x, σ')
    | _ => none
  | _ => none
theorem IE_strAcc {fn : Addr} {k : Nat} {q : List D → List Acc → Option (D × List Acc)} {x : Str} {p pos : Pos} {e : Expr} {m : Mx (List D)} (AK : AccK c K) (hf : findIn K (.ref c.C) "__str__" = some (some (.ref fn))) (ht : isFn K (.ref fn) = true) (hc : IFn c (.ref fn) k q) (hk : k + 2 ≤ F.k)
    (hx : GlobIs c F x (.type "str")) (hl : IL c F [e] m) (he : starEach [e] F.env = (false, eval e F.env) :: starEach [] F.env := by rfl) (hd : (x == ("__debug__" : Str)) = false := by decide +kernel) :
    IE c F (.Call (.Name x p) [e] [] pos) (bd m fun ds => strA q ds) := by
  intro A s σ g d σ' room R hm Q E hQ
  obtain ⟨ds, σ1, q1, hm⟩ := bd_some hm
  refine wp_callType room R hx hl q1 (fun vs s1 g1 R1 d1 x1 => ?_) he rfl hd
  unfold strA at hm
  split at hm
  · rename_i i
    split at hm
    · rename_i y σ2 hcm
      cases hm
      obtain ⟨_, rfl, dn⟩ := d1.oneI
      obtain ⟨a, rfl, hr⟩ := dn.accI
      obtain ⟨Ac, dx, ws, m, kk, hsh, t, u, _, _, _, _, _, I⟩ := R1.wd.acc hr
      have rm : Room A.in1.in1 k := ((room.le hk).in1).in1
      refine kso_call (by have := rm.units; omega) (AK.at R1.wd) I hf ht ?_
      let F' : Frm := { F with k := k }
      have R' : Rel c F' σ1 g1 s1 := ⟨R1.wd, ⟨R1.fo.kind, R1.fo.glob, R1.fo.bi, R1.fo.wl, R1.fo.apart, R1.fo.nod⟩, R1.loc, R1.vars, R1.cellx, R1.wmu, R1.blen, R1.bmu, R1.bnd, R1.box⟩
      refine wp_callFn (F := F') hc (Nat.le_refl _) rm R' (.cons (.acc hr) .nil) hcm fun v s2 g2 R2 d2 x2 => ?_
      obtain ⟨t2, rfl⟩ := d2.strI
      have R2' : Rel c F _ g2 s2 := ⟨R2.wd, ⟨R2.fo.kind, R2.fo.glob, R2.fo.bi, R2.fo.wl, R2.fo.apart, R2.fo.nod⟩, R2.loc, R2.vars, R2.cellx, R2.wmu, R2.blen, R2.bmu, R2.bnd, R2.box⟩
      exact hQ _ _ g2 R2' (.str _ _) (x1.trans x2)
    · cases hm
  · cases hm
end Mine
end
section
open PySem PySem.W PyProof.Rows
set_option autoImplicit false
namespace Mine
variable {c : Cx} {F : Frm}
noncomputable def negD : D → Option D
  | .int i => some (.int (-i))
  | _ => none
theorem IE_neg {x : Expr} {pos : Pos} {f : Mx D} (hx : IE c F x f) : IE c F (.UnaryOp .USub x pos) (bd f fun d => lf (negD d)) := by
  intro A s σ g d σ' room R hm Q E hQ
  obtain ⟨a, σ1, h1, hm⟩ := bd_some hm
  obtain ⟨h2, h3⟩ := lf_some hm
  cases h3
  unfold negD at h2
  split at h2
  · cases h2
    rw [arm_eval_UnaryOp]
    refine wpAny_bind (hx A s σ g _ _ room R h1 _ _ fun v s0 g0 R0 dn0 x0 => wpAny_bind (wpAny_standAt (wpAny_holding ?_)))
    cases dn0
    exact neg_int (hQ _ _ g0 R0.tok (.int _ _) x0)
  · cases h2
end Mine
end
section
open PySem PySem.W PyProof.Rows PySem.SeqAt PySem.Spec
set_option autoImplicit false
namespace Mine
variable {c : Cx} {F : Frm}
theorem gen_add {A' : Around} {E' : Value → Shared → Prop} {env : Env} {pa pb p1 p2 p3 p4 pos : Pos} {p : Str × Str} {t u : Tok} {s₂ : Shared} {m₂ : Str → Option Value} (G : c.mg "len" = none) (B : c.mb "len" = some (.builtin "len")) (hk : env.scope.kind = .function) (hg : env.globals = mainGlobals) (hb : env.builtins = builtinsNs) (hl : env.kindOf "len" = some .globalImplicit) (h1 : env.kindOf "fws" = some .local) (h2 : env.kindOf "part" = some .local)
    (z1 : p.1.length ≤ 1000000) (z2 : p.2.length ≤ 1000000) (n : s₂.heap.Ns env.locals m₂) (e1 : m₂ "fws" = some (.str p.1 t)) (e2 : m₂ "part" = some (.str p.2 u)) (ng : s₂.heap.Ns mainGlobals c.mg) (nb : s₂.heap.Ns builtinsNs c.mb)
    (hst1 : starEach [.Name "fws" pb] env = (false, eval (.Name "fws" pb) env) :: starEach [] env) (hp1 : (backTo p1 (starEach [.Name "fws" pb] env)).any (·.1) = false)
    (hst2 : starEach [.Name "part" p3] env = (false, eval (.Name "part" p3) env) :: starEach [] env) (hp2 : (backTo p4 (starEach [.Name "part" p3] env)).any (·.1) = false) :
    wpAny (model c.prog c.w) A' (eval (.BinOp (.Call (.Name "len" pa) [.Name "fws" pb] [] p1) .Add (.Call (.Name "len" p2) [.Name "part" p3] [] p4) pos) env) (fun v s₃ => (∃ t, v = .int ((p.1.length + p.2.length : Nat) : Int) t) ∧ Keeps s₂ s₃) E' s₂ := by
  refine wpAny_BinOp (len_call (y := "") hk hl h1 (hg ▸ ng) G (hb ▸ nb) B n e1 z1 hst1 hp1 (by decide +kernel) fun tk t' => ?_)
  refine len_call (y := "") hk hl h2 (hg ▸ ng) G (hb ▸ nb) B n e2 z2 hst2 hp2 (by decide +kernel) fun tk' t'' => ?_
  refine add_int ?_
  exact ⟨⟨_, by rw [Int.natCast_add]⟩, s₂.heap, _, rfl, fun _ _ e => e⟩
theorem gen_join {te : Tok} {A' : Around} {E' : Value → Shared → Prop} {env : Env} {pa pb p1 p2 p3 pos : Pos} {k : Nat} {p : Str × Str} {t u : Tok} {s₂ : Shared} {m₂ : Str → Option Value} (G : c.mg "EMPTYSTRING" = some (.str "" te)) (hk : env.scope.kind = .function) (hg : env.globals = mainGlobals) (hl : env.kindOf "EMPTYSTRING" = some .globalImplicit) (h1 : env.kindOf "fws" = some .local) (h2 : env.kindOf "part" = some .local)
    (z1 : p.1.length ≤ 1000000) (z2 : p.2.length ≤ 1000000) (n : s₂.heap.Ns env.locals m₂) (e1 : m₂ "fws" = some (.str p.1 t)) (e2 : m₂ "part" = some (.str p.2 u)) (ng : s₂.heap.Ns mainGlobals c.mg)
    (hst1 : starEach [.Name "fws" pb, .Name "part" p3] env = (false, eval (.Name "fws" pb) env) :: starEach [.Name "part" p3] env) (hst2 : starEach [.Name "part" p3] env = (false, eval (.Name "part" p3) env) :: starEach [] env)
    (hbase : attributeBase (.Name "EMPTYSTRING" pa) "join" env (eval (.Name "EMPTYSTRING" pa) env) = eval (.Name "EMPTYSTRING" pa) env)
    (hfew : ((backTo pos (starEach [.Tuple [.Name "fws" pb, .Name "part" p3] k p1] env)).all (fun x => !x.1) && (backToKw pos (keywordEach [] env)).all (fun x => x.1.isSome)
      && decide (([.Tuple [.Name "fws" pb, .Name "part" p3] k p1] : List Expr).length + ([] : List Keyword).length + (if ([] : List Keyword).isEmpty then 0 else 1) < 30)) = true)
    (hline : (p2.endLine == pos.line) = true)
    (he : starEach [.Tuple [.Name "fws" pb, .Name "part" p3] k p1] env = (false, eval (.Tuple [.Name "fws" pb, .Name "part" p3] k p1) env) :: starEach [] env)
    (hp : (backTo pos (starEach [.Tuple [.Name "fws" pb, .Name "part" p3] k p1] env)).any (·.1) = false) :
    wpAny (model c.prog c.w) A' (eval (.Call (.Attribute (.Name "EMPTYSTRING" pa) "join" p2) [.Tuple [.Name "fws" pb, .Name "part" p3] k p1] [] pos) env) (fun v s₃ => (∃ t, v = .str (Txt.join "" [p.1, p.2]) t) ∧ Keeps s₂ s₃) E' s₂ := by
  refine wpAny_Call_method hbase hfew hline PySem.F.plainAttrs_str PySem.F.slot_str_join PySem.F.type_str_join (Calls.Name_function_global hk hl (Calls.loadGlobal_global (hg ▸ ng) G ?_) (by decide +kernel))
  refine ⟨typeIs_str _ _ _, (fun _ e => (by cases e)), Calls.callWith_builtin hp ?_⟩
  have key : wpAny (model c.prog c.w) A' (spliced (backTo pos (starEach [.Tuple [.Name "fws" pb, .Name "part" p3] k p1] env))) (fun vs s' => wpAny (model c.prog c.w) A' (call (.builtin "str.join") (.str "" te :: vs)) (fun v s₃ => (∃ t, v = .str (Txt.join "" [p.1, p.2]) t) ∧ Keeps s₂ s₃) E' s') E' s₂ := by
    refine wpAny_items_cons (wpAny_Tuple ?_) he
    refine wpAny_items_cons (wpAny_Name (wpAny_loadName_local hk h1 n e1 ?_) (by decide +kernel)) hst1
    refine wpAny_items_cons (wpAny_Name (wpAny_loadName_local hk h2 n e2 (wpAny_items_nil ?_)) (by decide +kernel)) hst2
    refine ⟨by rw [sizeLine_eq]; simp, wpAny_items_nil ?_⟩
    refine join_tuple (ys := [p.1, p.2]) ⟨_, Heap.get?_push_size _ rfl, rfl, _, rfl⟩ (.cons _ _ (.cons _ _ .nil)) ?_ fun t' k => ⟨⟨_, rfl⟩, _, _, rfl, fun _ _ e => Heap.get?_push_of_some _ e⟩
    have : (("" : Str)).length = 0 := by decide +kernel
    simp [this]
    omega
  rw [he] at key ⊢
  exact Calls.evalArgs_plain key
theorem compOk0 {scope : Scope} {loc : List Str} (clos : closureFor scope F.env = pure []) (cell : ∀ y ∈ scope.names, y.2 ≠ .cell) (kind : scope.kind = .function) (names : ∀ y ∈ scope.names, y.2 = .local → scope.names.lookup y.1 = some .local) (nod : (loc ++ []).Nodup) : CompOk F scope [] loc [] [] :=
  ⟨clos, cell, kind, names, nod, (fun _ _ h => nomatch h), (fun _ _ h => nomatch h)⟩
end Mine
end
section
open PySem PySem.W PyProof.Rows PySem.SeqAt PySem.Spec
set_option autoImplicit false
namespace Mine
theorem trim (h : Heap) (e : ∃ a o, h.get? a = some o) : ∃ h' : Heap, (∀ a, h'.get? a = h.get? a) ∧ ∃ o, h'.get? (h'.objs.size - 1) = some o := by
  obtain ⟨a, o, e⟩ := e
  have key : ∀ (n : Nat) (h : Heap), h.objs.size = n → h.get? a = some o → ∃ h' : Heap, (∀ a, h'.get? a = h.get? a) ∧ ∃ o, h'.get? (h'.objs.size - 1) = some o := by
    intro n
    induction n with
    | zero =>
      intro h hn e
      have z : (a : Nat) < h.objs.size := Heap.lt_size e
      rw [hn] at z
      exact absurd z (Nat.not_lt_zero _)
    | succ n ih =>
      intro h hn e
      cases q : h.get? (h.objs.size - 1) with
      | some o' => exact ⟨h, fun _ => rfl, o', q⟩
      | none =>
        have hp : ∀ b, (⟨h.objs.pop, h.life⟩ : Heap).get? b = h.get? b := by
          intro b
          unfold Heap.get?
          by_cases hb : b = h.objs.size - 1
          · subst hb
            unfold Heap.get? at q
            rw [q]
            rw [Array.getElem?_eq_none (by simp)]
          · by_cases hb2 : b < h.objs.size - 1
            · rw [show (⟨h.objs.pop, h.life⟩ : Heap).objs = h.objs.pop from rfl, Array.getElem?_pop, if_pos hb2]
            · have hb3 : h.objs.size ≤ b := Nat.le_of_pred_lt (Nat.lt_of_le_of_ne (Nat.not_lt.mp hb2) (Ne.symm hb))
              rw [Array.getElem?_eq_none hb3, Array.getElem?_eq_none (Nat.le_trans (by simp) hb3)]
        obtain ⟨h', h1, h2⟩ := ih ⟨h.objs.pop, h.life⟩ (by simp [hn]) ((hp a).trans e)
        exact ⟨h', fun b => (h1 b).trans (hp b), h2⟩
  exact key _ h rfl e
theorem oldk_of {h₀ h₁ h : Heap} (q : ∀ a, h₀.get? a = h₁.get? a) (K : OldK h₀ h) : OldK h₁ h where
  old := fun b o e => by
    rcases K.old b o ((q b).trans e) with x | ⟨⟨c, oc, vs, e1, e2, e3, e4⟩, x⟩ | ⟨hb, hc, x, z⟩
    · exact .inl x
    · exact .inr (.inl ⟨⟨c, oc, vs, (q c).symm.trans e1, e2, e3, e4⟩, x⟩)
    · refine .inr (.inr ⟨hb, hc, x, fun key => ?_⟩)
      have := z key
      have e : staticOf h₁ key = staticOf h₀ key := by unfold staticOf; rw [q]
      rw [e]; exact this
  there := fun b o e => K.there b o ((q b).trans e)
noncomputable def tabAt (c P : Addr) (g : Gh) (h : Heap) : Prop := CodeHd h c P ∧ ¬ g.mu c ∧ ¬ g.mu P ∧ ∃ ps, TriplesOk ps.toList ∧ h.get? P = some (tabObj ps)
theorem tabAt.go {c P : Addr} {g g' : Gh} {h h' : Heap} (x : tabAt c P g h) (k : ∀ b o, ¬ g.mu b → h.get? b = some o → h'.get? b = some o) (m : ∀ b o, h.get? b = some o → g'.mu b → g.mu b) : tabAt c P g' h' := by
  obtain ⟨⟨o, vs, file, tf, flags, tg, inF, text, tt, e, r⟩, m1, m2, ps, t, e2⟩ := x
  exact ⟨⟨o, vs, file, tf, flags, tg, inF, text, tt, k _ _ m1 e, r⟩, fun z => m1 (m _ _ e z), fun z => m2 (m _ _ e2 z), ps, t, k _ _ m2 e2⟩
theorem tabAt.get {c P : Addr} {g : Gh} {h : Heap} (x : tabAt c P g h) : ∃ ps, h.IsCode c P ps ∧ h.TableAt c P ps := by
  obtain ⟨C, _, _, ps, t, e⟩ := x
  exact ⟨ps, C.code e t, C.tab e⟩
theorem triples_of {c P : Addr} {ps : Array Value} {h : Heap} (x : h.IsCode c P ps) (e : h.TableAt c P ps) : TriplesOk ps.toList := by
  obtain ⟨o, vs, file, tf, flags, tg, inF, text, tt, op, e1, e2, e3, e4, e5, e6, e7, e8, e9, e10, e11⟩ := x
  exact e10
theorem tabAt.put {c P : Addr} {g : Gh} {h h' : Heap} {ps : Array Value} (x : tabAt c P g h) (i : h'.IsCode c P ps) (t : h'.TableAt c P ps) : tabAt c P g h' :=
  ⟨CodeHd.of i t, x.2.1, x.2.2.1, ps, triples_of i t, t.2⟩
theorem tabAt.but {c P Q : Addr} {g : Gh} {h h' : Heap} (x : tabAt c P g h) (hx : Heap.ExtBut Q h h') (hc : c ≠ Q) (hP : P ≠ Q) : tabAt c P g h' := by
  obtain ⟨⟨o, vs, file, tf, flags, tg, inF, text, tt, e, r⟩, m1, m2, ps, t, e2⟩ := x
  exact ⟨⟨o, vs, file, tf, flags, tg, inF, text, tt, hx _ _ hc e, r⟩, m1, m2, ps, t, hx _ _ hP e2⟩
noncomputable def mkCx (prog : Program) (w : World) (h0 : Heap) (os : OsState) (C c1 P1 c2 P2 : Addr) (mg mb : Str → Option Value) (gns : h0.Ns mainGlobals mg) (bns : h0.Ns builtinsNs mb) (nol : h0.NoLimit) (last : ∃ o, h0.get? (h0.objs.size - 1) = some o)
    (gt : mainGlobals ∉ [P1, P2] ∧ builtinsNs ∉ [P1, P2] ∧ cStatics ∉ [P1, P2]) (tabn : ∀ P ∈ [P1, P2], ∀ o, h0.get? P = some o → o.cls = .none) : Cx where
  prog := prog
  w := w
  h0 := h0
  os0 := os
  C := C
  tabs := [P1, P2]
  tp := fun g h => tabAt c1 P1 g h ∧ tabAt c2 P2 g h
  mg := mg
  mb := mb
  gns := gns
  bns := bns
  nol := nol
  last := last
  gt := gt
  tabn := tabn
  tpk := fun _ _ _ _ x k m => ⟨x.1.go k m, x.2.go k m⟩
theorem mkCx_T1 {prog : Program} {w : World} {h0 : Heap} {os : OsState} {C c1 P1 c2 P2 : Addr} {mg mb : Str → Option Value} {gns : h0.Ns mainGlobals mg} {bns : h0.Ns builtinsNs mb} {nol : h0.NoLimit} {last : ∃ o, h0.get? (h0.objs.size - 1) = some o}
    {gt : mainGlobals ∉ [P1, P2] ∧ builtinsNs ∉ [P1, P2] ∧ cStatics ∉ [P1, P2]} {tabn : ∀ P ∈ [P1, P2], ∀ o, h0.get? P = some o → o.cls = .none} {gg : Gh} (i1 : tabAt c1 P1 gg h0) (d : P1 ≠ P2) (d1 : c2 ≠ P1) :
    TabOk (mkCx prog w h0 os C c1 P1 c2 P2 mg mb gns bns nol last gt tabn) c1 P1 where
  mem := .head _
  at0 := let ⟨_, _, _, ps, _, e⟩ := i1; ⟨c1, ps, CodeHd.tab i1.1 e⟩
  ne := fun e => gt.2.2 (e ▸ .head _)
  get := fun g h x => x.1.get
  put := fun g h h' ps x hx i t => ⟨x.1.put i t, x.2.but hx d1 (fun e => d e.symm)⟩
theorem mkCx_T2 {prog : Program} {w : World} {h0 : Heap} {os : OsState} {C c1 P1 c2 P2 : Addr} {mg mb : Str → Option Value} {gns : h0.Ns mainGlobals mg} {bns : h0.Ns builtinsNs mb} {nol : h0.NoLimit} {last : ∃ o, h0.get? (h0.objs.size - 1) = some o}
    {gt : mainGlobals ∉ [P1, P2] ∧ builtinsNs ∉ [P1, P2] ∧ cStatics ∉ [P1, P2]} {tabn : ∀ P ∈ [P1, P2], ∀ o, h0.get? P = some o → o.cls = .none} {gg : Gh} (i2 : tabAt c2 P2 gg h0) (d : P1 ≠ P2) (d1 : c1 ≠ P2) :
    TabOk (mkCx prog w h0 os C c1 P1 c2 P2 mg mb gns bns nol last gt tabn) c2 P2 where
  mem := .tail _ (.head _)
  at0 := let ⟨_, _, _, ps, _, e⟩ := i2; ⟨c2, ps, CodeHd.tab i2.1 e⟩
  ne := fun e => gt.2.2 (e ▸ .tail _ (.head _))
  get := fun g h x => x.2.get
  put := fun g h h' ps x hx i t => ⟨x.1.but hx d1 d, x.2.put i t⟩
theorem wd0 {c : Cx} {s : Shared} (q : ∀ a, c.h0.get? a = s.heap.get? a) (tab0 : ∀ P ∈ c.tabs, ∃ o, c.h0.get? P = some o ∧ o.cls = .none) (tp : c.tp g00 s.heap) (os : s.os = c.os0) (gs : AllBare s.gens) : Wd c [] g00 s where
  base := fun b o _ e => (q b).symm.trans e
  old := OldK.of_keep fun b o e => (q b).symm.trans e
  tabc := fun P hP => by
    obtain ⟨o, e, hc⟩ := tab0 P hP
    exact ⟨⟨o, e⟩, fun o' e' => by rw [← q, e] at e'; cases e'; exact hc⟩
  tp := tp
  mub := fun b h => h.elim
  os := os
  gens := gs
  len := rfl
  rmu := fun a h => nomatch h
  rnd := List.nodup_nil
  accs := fun i a A e => by simp at e
end Mine
end
section
open PySem PySem.W PyProof.Rows PySem.SeqAt PySem.Spec
set_option autoImplicit false
namespace Mine
variable {c : Cx} {F : Frm}
noncomputable def whileM (t : Mx Bool) (b : Mx Fl) : Nat → Mx Fl
  | 0 => fun _ => none
  | n + 1 => fun σ => match t σ with
    | none => none
    | some (false, σ1) => some (.next, σ1)
    | some (true, σ1) => match b σ1 with
      | none => none
      | some (.next, σ2) => whileM t b n σ2
      | some (.brk, σ2) => some (.next, σ2)
      | some (.ret d, σ2) => some (.ret d, σ2)
theorem I1_while {t : Expr} {body : List Stmt} {pos : Pos} {mt : Mx Bool} {mb : Mx Fl} (n : Nat) (ht : IT c F t mt) (hb : IS c F body mb) : I1 c F (.While t body [] pos) (whileM mt mb n) := by
  intro A s σ g fl σ' room R hm Q E hQ
  refine wpAny_While (codeAny_whileLoop (fun k s' => ∃ (σi : MS) (gi : Gh), Rel c F σi gi s' ∧ Ext c (F.W g) g gi s.heap s'.heap ∧ whileM mt mb k σi = some (fl, σ')) ?_ n ⟨σ, g, R, Ext.refl .., hm⟩)
  rintro k s1 ⟨σ1, g1, R1, x1, hk⟩
  cases k with
  | zero => cases hk
  | succ k =>
    unfold whileM at hk
    cases et : mt σ1 with
    | none => rw [et] at hk; cases hk
    | some p =>
      obtain ⟨b, σ2⟩ := p
      rw [et] at hk
      refine ht A s1 σ1 g1 b σ2 room R1 et _ _ fun s2 g2 R2 x2 => ?_
      cases b with
      | false =>
        dsimp only at hk
        cases hk
        exact wpAny_execs_nil (hQ .next s2 g2 R2 trivial (x1.trans x2))
      | true =>
        dsimp only at hk
        cases eb : mb σ2 with
        | none => rw [eb] at hk; cases hk
        | some r =>
          obtain ⟨f5, σ5⟩ := r
          rw [eb] at hk
          refine hb A s2 σ2 g2 f5 σ5 room R2 eb _ _ fun fl5 s5 g5 R5 d5 x5 => ?_
          have x := (x1.trans x2).trans x5
          cases f5 with
          | next =>
            cases fl5 with
            | next => exact ⟨k, Nat.lt_succ_self k, σ5, g5, R5, x, hk⟩
            | _ => exact d5.elim
          | brk =>
            cases fl5 with
            | brk => cases hk; exact hQ .next s5 g5 R5 trivial x
            | _ => exact d5.elim
          | ret d =>
            cases fl5 with
            | ret v' => cases hk; exact hQ (.ret v') s5 g5 R5 d5 x
            | _ => exact d5.elim
end Mine
end
section
open PySem PySem.W PyProof.Rows PySem.SeqAt PySem.Spec
set_option autoImplicit false
namespace Mine
variable {c : Cx} {F : Frm}
noncomputable def extM : List D → Mx D
  | [.box i, .lst l2] => fun σ => match σ.b[i]? with
    | some l => if l.length + l2.length ≤ 100000 then some (.none, { σ with b := σ.b.set i (l ++ l2) }) else none
    | none => none
  | _ => fun _ => none
theorem op_extend : OpN c F (.builtin "list.extend") extM := by
  intro A s σ g vs ds d σ' room R r hp Q E P
  unfold extM at hp
  split at hp
  · rename_i i l2
    split at hp
    · rename_i l hl
      split at hp
      · rename_i hz
        cases hp
        obtain ⟨_, _, rfl, d1, d2⟩ := r.twoI
        obtain ⟨a, rfl, hb⟩ := d1.boxI
        obtain ⟨b, vs2, n2, rfl, k1, km, k2⟩ := d2.lstI
        obtain ⟨vs, n', h1, h2⟩ := R.box _ _ l hb hl
        have z1 := h2.length
        have z2 := k2.length
        refine call_meets PySem.F.slot_list_extend ⟨_, h1, rfl⟩ PySem.F.entry_list_extend (PySem.F.args_list_extend_2 _ _) (PySem.AutoSeq1.list_extend_list_list_0 _ vs.toArray n' _ vs2.toArray n2 (extend_door (by simp only [List.size_toArray]; rw [sizeLine_eq]; omega)) (by simp only [List.size_toArray]; rw [sizeLine_eq]; omega) (by simp only [List.size_toArray]; rw [sizeLine_eq]; omega)) ⟨h1, k1, ?_⟩
        obtain ⟨n3, hn3⟩ : ∃ n3, (s.heap.update a (Obj.mapSeq fun x => x ++ vs2.toArray)).get? a = some (lstO (vs ++ vs2) n3) := by
          rw [Heap.get?_update_self _ h1 (by simp [Obj.mapSeq, Obj.isFreed])]
          exact ⟨_, by simp [Obj.mapSeq, lstO]; rfl⟩
        obtain ⟨R', x'⟩ := R.setBox (tk := s.toks) (vs := vs ++ vs2) (n := n3) (h' := s.heap.update a (Obj.mapSeq fun x => x ++ vs2.toArray)) hb (Heap.SameBut.update ..) hn3 (h2.append k2)
        exact P .none _ g R' .none x'
      · cases hp
    · cases hp
  · cases hp
theorem IE_extend {o e : Expr} {apos pos : Pos} {mo : Mx D} {m : Mx (List D)} (ho : IE c F o mo) (hl : IL c F [e] m) (hbase : attributeBase o "extend" F.env (eval o F.env) = eval o F.env := by rfl)
    (hfew : ((backTo pos (starEach [e] F.env)).all (fun x => !x.1) && (backToKw pos (keywordEach [] F.env)).all (fun x => x.1.isSome)
      && decide ([e].length + ([] : List Keyword).length + (if ([] : List Keyword).isEmpty then 0 else 1) < 30)) = true := by rfl)
    (hline : (apos.endLine == pos.line) = true := by rfl)
    (he : starEach [e] F.env = (false, eval e F.env) :: starEach [] F.env := by rfl) (hp : (backTo pos (starEach [e] F.env)).any (·.1) = false := by rfl) :
    IE c F (.Call (.Attribute o "extend" apos) [e] [] pos) (bd mo fun d => if isBox d then bd m fun ds => extM (d :: ds) else fun _ => none) :=
  IE_meth isBox ho hl op_extend PySem.F.plainAttrs_list PySem.F.slot_list_extend PySem.F.type_list_extend typ_box hbase hfew hline he hp
noncomputable def intsD : List D → Option (List Int)
  | [] => some []
  | .int i :: l => (intsD l).map (i :: ·)
  | _ :: _ => none
theorem intsAre {g : Gh} {h : Heap} : ∀ {ds : List D} {ns : List Int} {vs : List Value}, intsD ds = some ns → DenAll g h vs ds → IntsAre vs ns
  | [], ns, vs, e, r => by cases r; cases e; exact .nil
  | d :: ds, ns, vs, e, r => by
    cases r with
    | cons a r =>
      cases a with
      | int i t =>
        unfold intsD at e
        obtain ⟨l, h1, rfl⟩ := Option.map_eq_some_iff.mp e
        exact .cons i t (intsAre h1 r)
      | _ => cases e
noncomputable def lcountM : List D → Mx D
  | [.lst l, .int k] => fun σ => match intsD l with
    | some ns => some (.int (ns.count k : Nat), σ)
    | none => none
  | _ => fun _ => none
theorem op_lcount : OpN c F (.builtin "list.count") lcountM := by
  intro A s σ g vs ds d σ' room R r hp Q E P
  unfold lcountM at hp
  split at hp
  · rename_i l k
    split at hp
    · rename_i ns hns
      cases hp
      obtain ⟨_, _, rfl, d1, d2⟩ := r.twoI
      obtain ⟨_, _, _, rfl, h1, m1, r1⟩ := d1.lstI
      obtain ⟨_, rfl⟩ := d2.intI
      exact count_list_ints ⟨_, h1, rfl, _, rfl⟩ (intsAre hns r1) (P.flat R (.int _ _))
    · cases hp
  · cases hp
noncomputable def isLst : D → Bool
  | .lst _ => true
  | _ => false
theorem typ_lst (σ : MS) (g : Gh) (s : Shared) (v : Value) (d : D) (R : Rel c F σ g s) (dn : Den g s.heap v d) (h : isLst d = true) : s.TypeIs v "list" ∧ ∀ a, v = .ref a → ∃ ob, s.heap.get? a = some ob ∧ ob.dict = none := by
  cases dn with
  | lst h1 m1 r1 => exact ⟨⟨_, h1, rfl⟩, fun a e => by cases e; exact ⟨_, h1, rfl⟩⟩
  | _ => cases h
theorem IE_lcount {o e : Expr} {apos pos : Pos} {mo : Mx D} {m : Mx (List D)} (ho : IE c F o mo) (hl : IL c F [e] m) (hbase : attributeBase o "count" F.env (eval o F.env) = eval o F.env := by rfl)
    (hfew : ((backTo pos (starEach [e] F.env)).all (fun x => !x.1) && (backToKw pos (keywordEach [] F.env)).all (fun x => x.1.isSome)
      && decide ([e].length + ([] : List Keyword).length + (if ([] : List Keyword).isEmpty then 0 else 1) < 30)) = true := by rfl)
    (hline : (apos.endLine == pos.line) = true := by rfl)
    (he : starEach [e] F.env = (false, eval e F.env) :: starEach [] F.env := by rfl) (hp : (backTo pos (starEach [e] F.env)).any (·.1) = false := by rfl) :
    IE c F (.Call (.Attribute o "count" apos) [e] [] pos) (bd mo fun d => if isLst d then bd m fun ds => lcountM (d :: ds) else fun _ => none) :=
  IE_meth isLst ho hl op_lcount PySem.F.plainAttrs_list PySem.F.slot_list_count PySem.F.type_list_count typ_lst hbase hfew hline he hp
noncomputable def sumLM : List D → Mx D
  | [.lst l] => fun σ => match intsD l with
    | some ns => some (.int ns.sum, σ)
    | none => none
  | _ => fun _ => none
theorem op_sum : OpN c F (.builtin "sum") sumLM := by
  intro A s σ g vs ds d σ' room R r hp Q E P
  unfold sumLM at hp
  split at hp
  · rename_i l
    split at hp
    · rename_i ns hns
      cases hp
      obtain ⟨_, rfl, d1⟩ := r.oneI
      obtain ⟨a, vs, n, rfl, h1, m1, r1⟩ := d1.lstI
      have hi := intsAre hns r1
      obtain ⟨xs, hx⟩ := hi.allInts.items
      have hl : s.heap.IsList a (intItems xs) := by rw [← hx]; exact ⟨_, h1, rfl, _, rfl⟩
      refine sum_intListG room.hh hl fun h' tk t' hk => ?_
      have e : preSum (numAt xs) xs.size = ns.sum := by
        have h2 := hi.numsOf
        have h3 := nums_intItems xs
        rw [← hx] at h3
        rw [preSum_eq, List.take_of_length_le (by simp), ← h3]
        exact congrArg List.sum h2
      rw [e]
      exact P.keep R hk (.int _ _)
    · cases hp
  · cases hp
end Mine
end
section
open PySem PySem.W PyProof.Rows PySem.SeqAt PySem.Spec
set_option autoImplicit false
namespace Mine
variable {c : Cx} {F : Frm}
theorem wpAny_newFunctionEnv_over {M : Model} {A : Around} {E : Value → Shared → Prop} {s : Shared} {scope : Scope} {globals : Addr} {cl : List (Str × Addr)} {qual : Str} {outer : Env} {Q : Env → Shared → Prop}
    (h : Q (newEnv scope s.heap.objs.size globals (cellsFrom (s.heap.objs.size + 1) scope.names cl) qual none .none (some outer) builtinsNs) { s with heap := pushCells (s.heap.push { cls := .type "dict", data := .dict #[] }) scope.names }) :
    wpAny M A (newFunctionEnv scope globals cl [] qual none .none (some outer)) Q E s := by
  simp only [newFunctionEnv, Option.isSome_some, if_true]
  refine wpAny_bind (wpAny_alloc ?_)
  refine wpAny_bind (wpAny_layCells _ (fun name kind cells => by cases hkc : kind == NameKind.cell <;> simp [hkc]) _ _ _ _ ?_)
  rw [show ({ s with heap := s.heap.push { cls := .type "dict", data := .dict #[] } } : Shared).heap.objs.size = s.heap.objs.size + 1 from Heap.size_push ..]
  refine wpAny_bind ?_
  rw [List.forIn_nil]
  exact wpAny_pure (wpAny_pure h)
noncomputable abbrev cpX (scope : Scope) (cl : List (Str × Addr)) (x : Str) (F : Frm) (names : List Str) (C : Addr) : Frm := { env := compEnvC scope ((x, C + 1) :: cl) C F.env, names := names, ws := [C, C + 1], k := F.k }
structure CompOkX (F : Frm) (scope : Scope) (cl : List (Str × Addr)) (x : Str) (loc cap : List Str) (is : List Nat) : Prop where
  clos : closureFor scope F.env = pure cl
  one : ∀ n acc, cellsFrom n scope.names acc = (x, n) :: acc
  push : ∀ h : Heap, pushCells h scope.names = h.push { cls := .type "cell", data := .cell none }
  kind : scope.kind = .function
  names : ∀ y ∈ scope.names, y.2 = .local → scope.names.lookup y.1 = some .local
  nod : (loc ++ cap).Nodup
  xc : x ∉ cap
  sub : ∀ x b, cl.lookup x = some b → F.env.cells.lookup x = some b
  capt : ∀ (j : Nat) y, cap[j]? = some y → ∃ i, is[j]? = some i ∧ F.names[i]? = some y ∧ F.env.kindOf y ≠ some .local ∧ cl.lookup y = F.env.cells.lookup y ∧ ((relabel scope F.env).names.lookup y = some .cell ∨ (relabel scope F.env).names.lookup y = some .free)
theorem lookup_cons_some {x y : Str} {D b : Addr} {cl : List (Str × Addr)} (h : List.lookup y ((x, D) :: cl) = some b) : (y = x ∧ b = D) ∨ (y ≠ x ∧ cl.lookup y = some b) := by
  rw [List.lookup_cons] at h
  cases q : y == x with
  | true => rw [q] at h; cases h; exact .inl ⟨beq_iff_eq.mp q, rfl⟩
  | false => rw [q] at h; exact .inr ⟨beq_eq_false_iff_ne.mp q, h⟩
theorem wp_compBlockX {A : Around} {E : Value → Shared → Prop} {s s1 : Shared} {σ1 σ' : MS} {g g1 : Gh} {e : Expr} {elt tgt iter : Expr} {ifs : List Expr} {rest : List Comprehension} {scope : Scope} {pos : Pos} {cl : List (Str × Addr)} {x : Str} {loc cap : List Str} {is : List Nat} {t : Bool} {act : Addr → Value → Sem Unit} {m : Mx (List D)} {asg : D → MS → Option MS} {ds out : List D} {I : Addr}
    {RR : Value → Addr → Result → Shared → Prop} (he : e = .ListComp elt (⟨tgt, iter, ifs, 0⟩ :: rest) scope pos) (CO : CompOkX F scope cl x loc cap is) (LR : ∀ C, LoopRule c e 0 tgt (compEnvC scope ((x, C + 1) :: cl) C F.env) (act C)) (ha : ∀ C, IA c (cpX scope cl x F (loc ++ cap) C) tgt t asg) (hact : ∀ C, IEm c (cpX scope cl x F (loc ++ cap) C) (act C) m)
    (room : Room A F.k) {σ : MS} (R : Rel c F σ g s) (R1 : Rel c F σ1 g1 s1) (it : ∀ A' : Around, A'.handled = none → Itr c F A' tgt t g1 s.heap s1.heap I ds) (x1 : Ext c (F.W g) g g1 s.heap s1.heap)
    (hm : clsM asg m ds (capV loc.length is σ1) = some (out, σ')) (hz : out.length ≤ 1000000)
    (hQ : ∀ a C s' g', a ≠ C → Rel c F ⟨σ1.v, σ'.a, σ'.b⟩ g' s' → Priv F g' [a, C] → (∃ mm, s'.heap.Ns C mm) → (∃ vs n, s'.heap.get? a = some (lstO vs n) ∧ DenAll g' s'.heap vs out) → s.heap.get? a = none → s.heap.get? C = none → Ext c (F.W g) g g' s.heap s'.heap → (∀ b o, (b = F.env.locals ∨ ∃ y, F.env.cells.lookup y = some b) → s1.heap.get? b = some o → s'.heap.get? b = some o) → RR (.ref a) C (.ok .next) s') :
    wpAny (model c.prog c.w) A (newList []) (fun acc s₃ => wpAny (model c.prog c.w) A (newFunctionEnv scope F.env.globals cl [] F.env.qual none .none (some F.env)) (fun cenv s₄ =>
      codeAny (model c.prog c.w) A (.compStart e 0 (.ref I) acc { cenv with scope := relabel scope F.env }) (RR acc cenv.locals) s₄) E s₃) E s1 := by
  refine wpAny_newObj_type (wpAny_newFunctionEnv_over ?_)
  rw [CO.one, CO.push]
  dsimp only
  generalize hH2 : s1.heap.push { cls := .type "list", dict := none, data := .seq ([] : List Value).toArray } = H2
  have hC : H2.objs.size = s1.heap.objs.size + 1 := by rw [← hH2, Heap.size_push]
  have hDC : s1.heap.objs.size ≠ H2.objs.size := by rw [hC]; exact Nat.ne_of_lt (Nat.lt_succ_self _)
  have hsd : (H2.push { cls := .type "dict", data := .dict #[] }).objs.size = H2.objs.size + 1 := Heap.size_push ..
  have hcell : ((H2.push { cls := .type "dict", data := .dict #[] }).push { cls := .type "cell", data := .cell none }).IsCell (H2.objs.size + 1) none := ⟨_, hsd ▸ Heap.get?_push_size _ rfl, rfl⟩
  have hns₁ : ((H2.push { cls := .type "dict", data := .dict #[] }).push { cls := .type "cell", data := .cell none }).Ns H2.objs.size (fun _ => none) := (Heap.Ns.new H2 (.type "dict")).keeps fun b o e => Heap.get?_push_of_some _ e
  have hpp : ∀ b o, H2.get? b = some o → ((H2.push { cls := .type "dict", data := .dict #[] }).push { cls := .type "cell", data := .cell none }).get? b = some o := fun b o e => Heap.get?_push_of_some _ (Heap.get?_push_of_some _ e)
  generalize (H2.push { cls := .type "dict", data := .dict #[] }).push { cls := .type "cell", data := .cell none } = h₁ at hcell hns₁ hpp ⊢
  have old : ∀ b o, s1.heap.get? b = some o → h₁.get? b = some o := fun b o e => hpp b o (hH2 ▸ Heap.get?_push_of_some _ e)
  generalize hCe : H2.objs.size = C at hcell hns₁ hC hDC ⊢
  have hacc : h₁.get? s1.heap.objs.size = some (lstO [] 0) := hpp _ _ (hH2 ▸ Heap.get?_push_size _ rfl)
  have hDD : s1.heap.objs.size ≠ C + 1 := by rw [hC]; exact Nat.ne_of_lt (Nat.lt_succ_of_lt (Nat.lt_succ_self _))
  refine wp_compCore (Fi := cpX scope cl x F (loc ++ cap) C) (zs := [C + 1]) (C := C) (tk := s1.toks) he (LR C) (ha C) (hact C) rfl rfl (fun y b e => (lookup_cons_some e).elim (fun p => .inl (List.mem_singleton.mpr p.2)) fun p => .inr (CO.sub y b p.2)) room R R1 it x1 old (fun b hb => ?_) (fun b hb => ?_) hacc hDC (fun h => hDD (List.mem_singleton.mp h)) (fun R2 => ?_) hm hz (hQ _ C · · hDC)
  · rcases List.mem_cons.mp hb with h | hb
    · exact Nat.le_of_eq h.symm
    rcases List.mem_cons.mp hb with h | hb
    · rw [h, hC]; exact Nat.le_succ _
    · rw [List.mem_singleton.mp hb, hC]; exact Nat.le_trans (Nat.le_succ _) (Nat.le_succ _)
  · rcases List.mem_cons.mp hb with h | hb
    · exact ⟨_, h ▸ hacc⟩
    rcases List.mem_cons.mp hb with h | hb
    · obtain ⟨o, es, ep, q, _⟩ := hns₁; exact ⟨o, h ▸ q⟩
    · obtain ⟨o, q, _⟩ := hcell; exact ⟨o, List.mem_singleton.mp hb ▸ q⟩
  · refine ⟨R2.wd, ⟨CO.kind, R1.fo.glob, R1.fo.bi, .head _, fun y z b e1 e2 => ?_, CO.nod⟩, ⟨_, hns₁⟩, fun i y d e1 e2 => ?_, fun y b e => ?_, fun b q => ?_, R2.blen, R2.bmu, R2.bnd, R2.box⟩
    · have fD : ∀ y, cl.lookup y ≠ some (C + 1) := fun y q => by
        obtain ⟨_, _, o, e', _⟩ := R1.cellx y _ (CO.sub y _ q)
        have := Heap.lt_size e'
        rw [hC] at this
        exact Nat.lt_irrefl _ (Nat.lt_trans (Nat.lt_succ_of_lt (Nat.lt_succ_self _)) this)
      rcases lookup_cons_some e1 with ⟨p1, p2⟩ | ⟨p1, p2⟩ <;> rcases lookup_cons_some e2 with ⟨p3, p4⟩ | ⟨p3, p4⟩
      · rw [p1, p3]
      · exact absurd (p2 ▸ p4) (fD z)
      · exact absurd (p4 ▸ p2) (fD y)
      · exact R1.fo.apart y z b (CO.sub y b p2) (CO.sub z b p4)
    · obtain ⟨hcap, hk, v, b, dn, eb, hc⟩ := capt_at R2 CO.capt e1 e2
      refine ⟨v, .inr ⟨hk, b, ?_, hc⟩, dn⟩
      show List.lookup y ((x, C + 1) :: cl) = _
      rw [List.lookup_cons, beq_eq_false_iff_ne.mpr fun (z : y = x) => CO.xc (z ▸ hcap)]
      exact eb
    · rcases lookup_cons_some e with ⟨p1, p2⟩ | ⟨p1, p2⟩
      · subst p2; exact ⟨.inl (.inr (.tail _ (.tail _ (.head _)))), none, hcell⟩
      · exact R2.cellx y b (CO.sub y b p2)
    · rcases List.mem_cons.mp q with h | q
      · exact h ▸ .inr (.tail _ (.head _))
      · exact List.mem_singleton.mp q ▸ .inr (.tail _ (.tail _ (.head _)))
theorem I1_assign_lcX (i : Nat) {x : Str} {p spos : Pos} {elt tgt iter : Expr} {ifs : List Expr} {rest : List Comprehension} {scope : Scope} {pos : Pos} {cl : List (Str × Addr)} {z : Str} {loc cap : List Str} {is : List Nat} {t : Bool} {act : Addr → Value → Sem Unit} {mi m : Mx (List D)} {asg : D → MS → Option MS}
    (hx : F.names[i]? = some x) (hk : Storable F x) (CO : CompOkX F scope cl z loc cap is) (hi : IIt c F tgt t iter mi) (LR : ∀ C, LoopRule c (.ListComp elt (⟨tgt, iter, ifs, 0⟩ :: rest) scope pos) 0 tgt (compEnvC scope ((z, C + 1) :: cl) C F.env) (act C)) (ha : ∀ C, IA c (cpX scope cl z F (loc ++ cap) C) tgt t asg) (hact : ∀ C, IEm c (cpX scope cl z F (loc ++ cap) C) (act C) m)
    (hsw : swapsWith (.ListComp elt (⟨tgt, iter, ifs, 0⟩ :: rest) scope pos) (some (.Name x p)) spos.line F.env = pure true := by rfl)
    (hs : ∀ x, foldedSetIterable iter F.env x = pure x := by intro _; rfl) : I1 c F (.Assign [.Name x p] (.ListComp elt (⟨tgt, iter, ifs, 0⟩ :: rest) scope pos) spos) (bd (compM loc.length is mi asg m) fun d => fun σ => some (.next, wr i d σ)) := by
  intro A s σ g fl σ' room R hm Q E hQ
  obtain ⟨d, σ3, q3, hm⟩ := bd_some hm
  cases hm
  obtain ⟨ds, σ1, q1, hm⟩ := bd_some q3
  cases ec : clsM asg m ds (capV loc.length is σ1) with
  | none => rw [ec] at hm; cases hm
  | some r =>
    obtain ⟨out, σ2⟩ := r
    rw [ec] at hm
    dsimp only at hm
    split at hm
    · rename_i hz
      cases hm
      rw [exec_Assign_Name_used _ _ _ _ hsw]
      refine wpAny_bind (wpAny_standAt (wpAny_bind ?_))
      show wpAny _ A (do let _ ← comprehension (.ListComp elt (⟨tgt, iter, ifs, 0⟩ :: rest) scope pos) scope F.env _ (newList []) false (eval iter F.env) (some (assign (.Name x p) F.env))) _ _ s
      refine wpAny_bind (wpAny_mono (wpAny_comprehension_free (use := some (assign (.Name x p) F.env)) (Q := fun _ s' => Q .next s') rfl hs CO.clos CO.kind CO.names
        (hi A s σ g ds σ1 room R q1 _ _ fun I s1 g1 R1 it x1 => ?_)) (fun _ s' hq => wpAny_pure (wpAny_pure hq)) fun _ _ e => e)
      refine wp_compBlockX (RR := fun acc C => compPost (model c.prog c.w) A E (some (assign (.Name x p) F.env)) (fun _ s' => Q .next s') acc C) rfl CO LR ha hact room R R1 it x1 ec hz fun a C s' g' hne RB pv hC hL na nC x0 _ => ?_
      exact comp_store hx hk hne RB pv hC hL na nC x0 fun s4 g4 R4 x4 => hQ _ _ _ R4 trivial x4
    · cases hm
end Mine
end
section
open PySem PySem.W PyProof.Rows PySem.SeqAt PySem.Spec
set_option autoImplicit false
namespace Mine
variable {c : Cx} {F : Frm}
noncomputable def fzS (σ : MS) : MS := ⟨σ.v.map fun o => o.bind (frz σ.b), σ.a, []⟩
noncomputable def fzG (g : Gh) : Gh := ⟨g.rho, [], fun b => g.mu b ∧ b ∉ boxesOf g⟩
noncomputable def TpUp (c : Cx) : Prop := ∀ (g : Gh) (h : Heap) (b : List (Option Addr)) (B : Addr → Prop), c.tp g h → (∀ b, B b → c.h0.objs.size ≤ b) → c.tp ⟨g.rho, b, fun b => g.mu b ∨ B b⟩ h
noncomputable def OwnWs (F : Frm) : Prop := ∀ b ∈ F.ws, b = F.env.locals ∨ ∃ y, F.env.cells.lookup y = some b
theorem Rel.ownNB {σ : MS} {g : Gh} {s : Shared} (R : Rel c F σ g s) {b : Addr} (h : b = F.env.locals ∨ ∃ y, F.env.cells.lookup y = some b) : b ∉ boxesOf g := by
  intro z
  rcases h with h | ⟨y, h⟩
  · subst h
    obtain ⟨m, o, es, ep, ho, hd, _⟩ := R.loc
    exact R.notBox ho (fun vs n q => by rw [hd] at q; cases q) (mem_boxes.mp z)
  · obtain ⟨_, v, o, ho, hd⟩ := R.cellx y b h
    exact R.notBox ho (fun vs n q => by rw [hd] at q; cases q) (mem_boxes.mp z)
theorem Rel.boxAt {σ : MS} {g : Gh} {s : Shared} (R : Rel c F σ g s) {b : Addr} (h : b ∈ boxesOf g) : ∃ vs n, s.heap.get? b = some (lstO vs n) := by
  obtain ⟨i, hi, e⟩ := List.mem_iff_getElem.mp (mem_boxes.mp h)
  obtain ⟨vs, n, h1, _⟩ := R.box i b (σ.b[i]'(by rw [← R.blen]; exact hi)) (by rw [← e]; exact List.getElem?_eq_getElem hi) (List.getElem?_eq_getElem _)
  exact ⟨vs, n, h1⟩
theorem Rel.fz {σ : MS} {g : Gh} {s : Shared} (R : Rel c F σ g s) (hw : OwnWs F) : Rel c F (fzS σ) (fzG g) s := by
  obtain ⟨n1, n2, n3⟩ := R.notAcc'
  have G : Gn g (fzG g) s.heap s.heap := ⟨fun _ _ _ _ e => e, fun _ _ _ q => q.1, fun _ _ e => e⟩
  refine ⟨R.wd.rebet [] (fun _ q => q.1) (fun b hb => ⟨R.wd.rmu b hb, fun q => n3 b (mem_boxes.mp q) hb⟩), R.fo, R.loc, fun i x d e1 e2 => ?_, fun x a e => ?_, fun a ha => ⟨R.wmu a ha, R.ownNB (hw a ha)⟩, rfl, fun a q => by simp [fzG] at q, fun i j a e => by simp [fzG] at e, fun i a l e => by simp [fzG] at e⟩
  · have e2 : (σ.v.map fun o => o.bind (frz σ.b))[i]? = some (some d) := e2
    rw [List.getElem?_map] at e2
    obtain ⟨o, q1, q2⟩ := Option.map_eq_some_iff.mp e2
    cases o with
    | none => cases q2
    | some d0 =>
      obtain ⟨v, V, dn⟩ := R.vars i x d0 e1 q1
      refine ⟨v, V, Den.frz G σ.b (fun j a l h1 h2 hn => ?_) q2 dn⟩
      obtain ⟨vs, n, h3, h4⟩ := R.box j a l h1 h2
      exact ⟨vs, n, h3, fun q => q.2 (mem_boxes.mpr (List.mem_of_getElem? h1)), h4.gn G hn⟩
  · obtain ⟨m, r⟩ := R.cellx x a e
    exact ⟨m.imp (fun q => ⟨q, R.ownNB (.inr ⟨x, e⟩)⟩) id, r⟩
theorem parts_up {g g' : Gh} {h : Heap} (H : ∀ b vs n, h.get? b = some (tupO vs n) → g'.mu b → g.mu b) : ∀ {l : List (Str × Str)} {vs : List Value}, DenAll g h vs (l.map part) → DenAll g' h vs (l.map part)
  | [], _, x => by cases x; exact .nil
  | p :: l, _, x => by
    cases x with
    | cons a r =>
      refine .cons ?_ (parts_up H r)
      have a : Den g h _ (.tup [.str p.1, .str p.2]) := a
      show Den g' h _ (.tup [.str p.1, .str p.2])
      cases a with
      | tup e m q =>
        refine .tup e (fun z => m (H _ _ _ e z)) ?_
        cases q with
        | cons a1 q => cases a1; cases q with
          | cons a2 q => cases a2; cases q; exact .cons (.str _ _) (.cons (.str _ _) .nil)
theorem Wd.thaw {al : List Acc} {g : Gh} {s : Shared} (W : Wd c al g s) (htp : TpUp c) (b : List (Option Addr)) (B : Addr → Prop) (hB : ∀ b, B b → c.h0.objs.size ≤ b ∧ ∃ vs n, s.heap.get? b = some (lstO vs n)) : Wd c al ⟨g.rho, b, fun b => g.mu b ∨ B b⟩ s := by
  refine ⟨W.base, W.old, W.tabc, htp g s.heap b B W.tp (fun b q => (hB b q).1), fun b q => ?_, W.os, W.gens, W.len, fun a ha => .inl (W.rmu a ha), W.rnd, fun i a A e1 e2 => ?_⟩
  · rcases q with q | q
    · exact W.mub b q
    · obtain ⟨h1, vs, n, h2⟩ := hB b q
      exact ⟨h1, _, h2⟩
  · obtain ⟨dx, vs, n, k, hs, t, u, h1, h2, h3, h4⟩ := W.accs i a A e1 e2
    refine ⟨dx, vs, n, k, hs, t, u, h1, h2, fun q => ?_, parts_up (fun b vs n e q => ?_) h4⟩
    · rcases q with q | q
      · exact h3 q
      obtain ⟨_, vs, n, h5⟩ := hB dx q
      rw [h2] at h5; have := congrArg Obj.cls (Option.some.inj h5); simp at this
    · rcases q with q | q
      · exact q
      obtain ⟨_, vs, n, h5⟩ := hB b q
      rw [e] at h5; have := congrArg Obj.cls (Option.some.inj h5); simp at this
noncomputable def atom : D → Bool
  | .int _ | .str _ | .bool _ | .none => true
  | _ => false
theorem DenAll.atoms {g g' : Gh} {h h' : Heap} : ∀ {ds : List D} {vs : List Value}, ds.all atom = true → DenAll g h vs ds → DenAll g' h' vs ds
  | [], _, _, x => by cases x; exact .nil
  | d :: ds, _, e, x => by
    rw [List.all_cons, Bool.and_eq_true] at e
    cases x with
    | cons a r =>
      refine .cons ?_ (DenAll.atoms e.2 r)
      cases a with
      | none => exact .none
      | bool b => exact .bool b
      | int i t => exact .int i t
      | str x t => exact .str x t
      | _ => cases e.1
noncomputable def compFM (i n : Nat) (is : List Nat) (t : Bool) (asg : D → MS → Option MS) (m : Mx (List D)) : Mx D := fun σ => match rd i (fzS σ) with
  | some (.lst ds, _) => if allUn t ds then (match clsM asg m ds (capV n is (fzS σ)) with
    | some (out, σ') => if out.length ≤ 1000000 ∧ out.all atom = true ∧ σ'.b = [] then some (.lst out, ⟨σ.v, σ'.a, σ.b⟩) else none
    | none => none) else none
  | _ => none
set_option maxHeartbeats 1000000 in
theorem IE_lcF (i : Nat) {x : Str} {p : Pos} {elt tgt : Expr} {ifs : List Expr} {rest : List Comprehension} {scope : Scope} {pos : Pos} {cl : List (Str × Addr)} {loc cap : List Str} {is : List Nat} {t : Bool} {act : Addr → Value → Sem Unit} {m : Mx (List D)} {asg : D → MS → Option MS}
    (htp : TpUp c) (hw : OwnWs F) (hx : F.names[i]? = some x) (CO : CompOk F scope cl loc cap is) (LR : ∀ C, LoopRule c (.ListComp elt (⟨tgt, .Name x p, ifs, 0⟩ :: rest) scope pos) 0 tgt (compEnvC scope cl C F.env) (act C)) (ha : ∀ C, IA c (cpF scope cl F (loc ++ cap) C) tgt t asg) (hact : ∀ C, IEm c (cpF scope cl F (loc ++ cap) C) (act C) m)
    (hd : (x == ("__debug__" : Str)) = false := by decide +kernel) (hcd : (x == ("__classdict__" : Str)) = false := by decide +kernel)
    (hs : ∀ y, foldedSetIterable (.Name x p) F.env y = pure y := by intro _; rfl) : IE c F (.ListComp elt (⟨tgt, .Name x p, ifs, 0⟩ :: rest) scope pos) (compFM i loc.length is t asg m) := by
  intro A s σ g d σ' room R hm Q E hQ
  unfold compFM at hm
  split at hm
  · rename_i ds σr hrd
    split at hm
    · rename_i hall
      split at hm
      · rename_i out σ2 ec
        split at hm
        · rename_i hz
          obtain ⟨hz, hat, hb0⟩ := hz
          cases hm
          obtain ⟨ev, _⟩ := rd_some hrd
          have Rf := R.fz hw
          obtain ⟨v, V, dn⟩ := Rf.vars i x _ hx ev
          cases dn with
          | lst h1 m1 r1 =>
            rename_i a0 vs0 n0
            rw [eval_ListComp]
            refine wpAny_comprehension_free (use := none) rfl hs CO.clos CO.kind CO.names ?_
            have hl : s.heap.IsList a0 vs0.toArray := ⟨_, h1, rfl, n0, rfl⟩
            have fresh : ∀ b ∈ [s.heap.objs.size], s.heap.objs.size ≤ b := fun b hb => by simp at hb; omega
            have hn : ∀ b ∈ [s.heap.objs.size], s.heap.get? b = none := fun b hb => none_of_size (fresh b hb)
            obtain ⟨R2, p2, x2, G2⟩ := Rf.fresh (tk := s.toks) (wr := [s.heap.objs.size]) (fun b o e => Heap.get?_push_of_some { cls := .type "list_iterator", data := .fields #[.ref a0, .int 0 0] } e) fresh (fun b hb => by simp at hb; subst hb; exact ⟨_, Heap.get?_push_size _ rfl⟩)
            have hne : a0 ≠ s.heap.objs.size := Nat.ne_of_lt (Heap.lt_size h1)
            have hz0 : vs0.toArray.size = ds.length := by simp [r1.length]
            have itr : ∀ A' : Around, A'.handled = none → Itr c F A' tgt t ((fzG g).plus [s.heap.objs.size]) s.heap (s.heap.push { cls := .type "list_iterator", data := .fields #[.ref a0, .int 0 0] }) s.heap.objs.size ds := fun A' hA => by
              have WK := Walks.list (prog := c.prog) (w := c.w) hA s.heap.objs.size a0 hne vs0.toArray
              have K := KTurns.ofWalks (target := tgt) WK (fun i v s Q E st q => go_listIter st.1 q)
              rw [hz0] at K
              refine ⟨_, _, _, _, _, K, ⟨⟨_, Heap.get?_push_size _ rfl, rfl, rfl⟩, hl.push _⟩, p2, hn, fun i h' st b hb => ?_, fun i s' Q' E' st q => WK.self i s' Q' E' st q, fun b hb => ?_, fun i v h' g' d hP G ed => ?_⟩
              · simp at hb; subst hb; obtain ⟨o, ho, _⟩ := st.1; exact ⟨o, ho⟩
              · rcases List.mem_cons.mp hb with rfl | hb
                · exact .inl (by simp)
                · simp at hb; subst hb
                  exact .inr ⟨fun q => by rcases q with q | q; exact m1 q; simp at q; exact hne q, _, Heap.get?_push_of_some _ h1, by simp⟩
              · obtain ⟨v', ev, dn⟩ := r1.get ed
                have : v = v' := by
                  have hP : vs0.toArray[i]? = some v := hP
                  simp at hP
                  rw [ev] at hP; cases hP; rfl
                subst this
                exact item_of ((dn.go G2).go G) (allUn_at hall ed)
            have key : wpAny (model c.prog c.w) A (pyIter (.ref a0)) (fun it s₂ => wpAny (model c.prog c.w) A (newList []) (fun acc s₃ => wpAny (model c.prog c.w) A (newFunctionEnv scope F.env.globals cl [] F.env.qual none .none (some F.env)) (fun cenv s₄ =>
                codeAny (model c.prog c.w) A (.compStart (.ListComp elt (⟨tgt, .Name x p, ifs, 0⟩ :: rest) scope pos) 0 it acc { cenv with scope := relabel scope F.env }) (compPost (model c.prog c.w) A E none Q acc cenv.locals) s₄) E s₃) E s₂) E s := by
              refine wpAny_pyIter_list hl ?_
              refine wp_compBlock (RR := fun acc C => compPost (model c.prog c.w) A E none Q acc C) rfl CO LR ha hact room Rf R2 itr x2 ec hz fun a C s' g' hne RB pv hC hL na nC x own => ?_
              obtain ⟨mm, hn⟩ := hC
              refine ⟨mm, hn, fun h' hs' => ?_⟩
              have hk : ∀ b o, b ∉ [a, C] → s'.heap.get? b = some o → h'.get? b = some o := fun b o q e => hs'.extBut b o (fun z => q (by simp [z])) e
              have R3 := RB.over (tk := s'.toks) pv hk
              obtain ⟨vs, n, h1, h2⟩ := hL
              have hn0 : ∀ b ∈ [a, C], s.heap.get? b = none := fun b hb => by
                rcases List.mem_cons.mp hb with rfl | hb
                · exact na
                · simp at hb; subst hb; exact nC
              have nw : ∀ b o, s.heap.get? b = some o → b ∉ [a, C] := fun b o e q => by have := hn0 b q; rw [e] at this; simp at this
              have y := x.skip hn0 hk
              have y : Ext c (F.W (fzG g)) (fzG g) { g' with mu := fun b => g'.mu b ∧ b ∉ [a, C] } s.heap h' := ⟨y.keep, y.there, fun b o e q => y.mu1 b o e q.1, fun b o e q => ⟨y.mu2 b o e q, nw b o e⟩, y.rho, y.bet⟩
              obtain ⟨n1, n2, n3⟩ := R.notAcc'
              have bk : ∀ b ∈ boxesOf g, ∃ o, s.heap.get? b = some o := fun b q => let ⟨vs, n, e⟩ := R.boxAt q; ⟨_, e⟩
              have btab : ∀ b ∈ boxesOf g, b ∉ c.tabs := fun b q t => Nat.lt_irrefl _ (Nat.lt_of_lt_of_le (R.wd.tlow t) (R.wd.mub b (R.bmu b (mem_boxes.mp q))).1)
              have keepB : ∀ b ∈ boxesOf g, ∀ o, s.heap.get? b = some o → h'.get? b = some o := fun b q o e => y.keep b o (fun z => by
                unfold Frm.W at z
                rw [List.mem_append, List.mem_append] at z
                rcases z with (z | z) | z
                · exact R.ownNB (hw b z) q
                · exact n3 b (mem_boxes.mp q) z
                · simp [fzG, boxesOf] at z) (btab b q) e
              have W3 := R3.wd.thaw htp g.bet (fun b => b ∈ boxesOf g) (fun b q => by
                obtain ⟨vs, n, e⟩ := R.boxAt q
                exact ⟨(R.wd.mub b (R.bmu b (mem_boxes.mp q))).1, vs, n, keepB b q _ e⟩)
              have Gf := y.go (fun b hb => by
                unfold Frm.W at hb
                rw [List.mem_append, List.mem_append] at hb
                rcases hb with (hb | hb) | hb
                · exact Rf.wmu b hb
                · exact Rf.wd.rmu b hb
                · simp [fzG, boxesOf] at hb) (fun P hP o e => (R.wd.tabc P hP).2 o e)
              have G3 : Go g ⟨g'.rho, g.bet, fun b => (g'.mu b ∧ b ∉ [a, C]) ∨ b ∈ boxesOf g⟩ s.heap h' := ⟨fun b o q => Gf.keep b o fun z => q z.1, fun b o e q => q.elim (fun q => (Gf.mu b o e q).1) fun q => R.bmu b (mem_boxes.mp q), Gf.rho, fun _ _ e => e⟩
              have R4 : Rel c F ⟨σ.v, σ2.a, σ.b⟩ ⟨g'.rho, g.bet, fun b => (g'.mu b ∧ b ∉ [a, C]) ∨ b ∈ boxesOf g⟩ { s' with heap := h' } := by
                refine R.back (s' := { s' with heap := h' }) W3 G3 (fun b o h e => hk b o (nw b o e) (own b o h (Heap.get?_push_of_some _ e))) (fun b hb => .inl (R3.wmu b hb)) (fun y' b o h e m => ?_) R.blen (fun a q => .inr (mem_boxes.mpr q)) R.bnd fun j b l e1 e2 => ?_
                · exact .inl (y.mu2 b o e ⟨m, R.ownNB (.inr ⟨y', h⟩)⟩)
                · obtain ⟨vs, n, h3, h4⟩ := R.box j b l e1 e2
                  exact ⟨vs, n, keepB b (mem_boxes.mpr (List.mem_of_getElem? e1)) _ h3, h4.go G3⟩
              refine hQ (.ref a) _ _ R4 (.lst (hs'.extBut a _ hne h1) (fun q => q.elim (fun q => q.2 (by simp)) fun q => ?_) (h2.atoms hat)) ⟨fun b o q t e => y.keep b o (fun z => q ?_) t e, y.there, fun b o e q => G3.mu b o e q, fun b o e q => ?_, y.rho, ⟨[], by simp, by simp⟩⟩
              · obtain ⟨o, e⟩ := bk a q
                rw [na] at e; cases e
              · unfold Frm.W at z ⊢
                rw [List.mem_append, List.mem_append] at z ⊢
                rcases z with (z | z) | z
                · exact .inl (.inl z)
                · exact .inl (.inr z)
                · simp [fzG, boxesOf] at z
              · by_cases hb : b ∈ boxesOf g
                · exact .inr hb
                · exact .inl (y.mu2 b o e ⟨q, hb⟩)
            refine wpAny_Name ?_ hd
            rcases V with ⟨k, m, hn, ev⟩ | ⟨k | k, a, ea, hcell⟩
            · exact wpAny_loadName_local R.fo.kind k hn ev key
            · exact wpAny_loadName_cell R.fo.kind k ea hcell key
            · exact wpAny_loadName_free R.fo.kind k ea hcell key hcd
        · cases hm
      · cases hm
    · cases hm
  · cases hm
end Mine
end
section
open PySem PySem.W PyProof.Rows PySem.SeqAt PySem.Spec
set_option autoImplicit false
namespace Mine
variable {c : Cx} {F : Frm} {K : Frag}
section
variable {prog : Program} {w : World} {A : Around} {E : Value → Shared → Prop} {s : Shared}
theorem seqKey_sub {a C : Addr} {ox : Obj} {od : Option Obj} {k : Value} {name : Str} {Q : Value → Shared → Prop} (X : K.In s.heap) (I : InstAt s.heap a ox C od) (hdq : mroIn K C (.type "collections.deque") = some false) (h : Q k s) :
    wpAny (model prog w) A (sequenceKey (.ref a) k name) Q E s := by
  unfold sequenceKey
  refine wpAny_bind (I.type.here ?_)
  dsimp only
  simp only [seqItemTypes, List.anyM]
  refine wpAny_bind (wpAny_bind ((looks_mroIn X hdq).here (wpAny_pure ?_)))
  exact wpAny_pure h
theorem parts_of {sl : Addr} {i : Int} {t : Tok} {vs : Array Value} {n : Nat} {Q : Value × Value × Value → Shared → Prop} (hs : s.heap.IsSliceOf sl (.int i t) .none .none) (h : Q (rawPart (some i), rawPart none, rawPart none) s) :
    wpAny (model prog w) A (Builtin.List.listSliceParts (.ref sl)) Q E s := by
  obtain ⟨os, hos, hcs, hds⟩ := hs
  rw [listSliceParts_eq]
  refine wpAny_bind (wpAny_field hos hds (x := .none) rfl (wpAny_bind (wpAny_listPart .none ?_)))
  rw [if_neg (show ¬ ((rawPart none == rawInt 0) = true) from Bool.false_ne_true)]
  refine wpAny_bind (wpAny_field hos hds (x := .int i t) rfl (wpAny_bind (wpAny_listPart (.int i t) ?_)))
  exact wpAny_bind (wpAny_field hos hds (x := .none) rfl (wpAny_bind (wpAny_listPart .none (wpAny_pure h))))
theorem bounds_from {i : Int} {n : Nat} (h0 : 0 ≤ i) (h1 : i ≤ n) : sliceBounds (some i) none none n = (i, (n : Int), 1) := by
  simp only [sliceBounds, Option.getD_none]
  have h2 : ¬ (i < 0) := by omega
  simp only [h2, if_false, show (1 : Int) > 0 by decide, if_true]
  congr 1
  omega
theorem getitem_sub {a C sl : Addr} {ox : Obj} {od : Option Obj} {vs : List Value} {n : Nat} {i : Int} {t : Tok} {Q : Value → Shared → Prop} (X : K.In s.heap) (I : InstAt s.heap a ox C od) (hd : ox.data = .seq vs.toArray n) (hsub : mroIn K C (.type "list") = some true) (hdq : mroIn K C (.type "collections.deque") = some false)
    (hi : findIn K (.ref C) "__getitem__" = some (some (.builtin "list.__getitem__"))) (hs : s.heap.IsSliceOf sl (.int i t) .none .none) (h0 : 0 ≤ i) (h1 : i ≤ vs.length) (hz : vs.length ≤ 1000000)
    (hQ : Q (.ref s.heap.objs.size) { s with heap := s.heap.push { cls := .type "list", data := .seq (vs.drop i.toNat).toArray } }) : wpAny (model prog w) A (getItem (.ref a) (.ref sl)) Q E s := by
  have L : Looks (model prog w) s.heap (specialOf (.ref a) "__getitem__") (some (.builtin "list.__getitem__")) := I.type.andThen (looks_findIn X hi)
  obtain ⟨os, hos, hcs, hds⟩ := id hs
  have hTs : s.TypeIs (.ref sl) "slice" := ⟨os, hos, hcs⟩
  unfold getItem
  refine wpAny_holding (wpAny_bind (seqKey_sub X I hdq ?_))
  refine wpAny_bind ?_
  unfold callSpecial?
  refine wpAny_bind (L.here (wpAny_holding ?_))
  rw [PySem.F.slot_list_getitem.bind]
  refine wpAny_bind (wpAny_pure ?_)
  refine wpAny_bind ?_
  show wpAny _ _ (call (.builtin "list.__getitem__") [.ref a, .ref sl]) _ _ s
  refine wpAny_call (codeAny_call_builtin PySem.F.slot_list_getitem.plain PySem.F.entry_list_getitem ?_)
  have k1 : splitId "list.__getitem__" = some ("list", "__getitem__") := by decide +kernel
  have k2 : (Manifest.find? "list").bind (·.attrs.lookup "__getitem__") = some .method := by decide +kernel
  refine @sub_check K prog w A.in1 _ s "list.__getitem__" "__getitem__" a C ox od [.ref sl] _ X I hsub k1 (.inr k2) (PySem.F.args_list_getitem_2 _ _) ?_
  show wpAny _ _ (Builtin.List.listSubscript? (.ref sl) >>= _) _ _ s
  refine wpAny_bind ?_
  unfold Builtin.List.listSubscript?
  refine wpAny_bind (wpAny_specialOf hTs slice_no_index ?_)
  simp only [Option.isNone_none, if_true]
  refine wpAny_pure ?_
  show wpAny _ _ (typeOf (.ref sl) >>= _) _ _ s
  refine wpAny_bind (wpAny_typeOf hTs ?_)
  rw [if_neg (by decide)]
  refine wpAny_bind (parts_of (vs := #[]) (n := 0) hs ?_)
  dsimp only
  refine wpAny_bind (m := Builtin.List.listItems (.ref a)) ?_
  unfold Builtin.List.listItems
  refine wpAny_bind (wpAny_seqItems I.at_ hd (wpAny_pure ?_))
  refine wpAny_bind (wpAny_of_eq (sliceIndices_raw (some i) none none _ (by simp)) ?_)
  have e : ((sliceRange i vs.toArray.size 1).filterMap (vs.toArray[·]?)).toArray = (vs.drop i.toNat).toArray := by
    have := slicePick_from vs.toArray i.toNat (by simp; omega)
    unfold slicePick at this
    rw [show ((i.toNat : Nat) : Int) = i by omega, bounds_from h0 (by simpa using h1)] at this
    simpa using this
  rw [bounds_from h0 (by simpa using h1)]
  dsimp only
  rw [e]
  exact wpAny_bind (wpAny_newObj_type (wpAny_pure (wpAny_pure (wpAny_pure hQ))) (by show (vs.drop i.toNat).toArray.size ≤ sizeLine; rw [List.size_toArray, List.length_drop, sizeLine_eq]; omega))
theorem setitem_sub {a C dx sl b : Addr} {od : Option Obj} {vs : List Value} {n m : Nat} {i : Int} {t : Tok} {Q : Unit → Shared → Prop} (X : K.In s.heap) (I : InstAt s.heap a (accO C dx vs n) C od) (hsub : mroIn K C (.type "list") = some true) (hdq : mroIn K C (.type "collections.deque") = some false)
    (hi : findIn K (.ref C) "__setitem__" = some (some (.builtin "list.__setitem__"))) (hs : s.heap.IsSliceOf sl (.int i t) .none .none) (hb : s.heap.get? b = some (lstO [] m)) (hab : a ≠ b) (h0 : 0 ≤ i) (h1 : i ≤ vs.length) (hz : vs.length ≤ 1000000)
    (hQ : ∀ h' n', Heap.SameBut a s.heap h' → h'.get? a = some (accO C dx (vs.take i.toNat) n') → Q () { s with heap := h' }) : wpAny (model prog w) A (setItem (.ref a) (.ref sl) (.ref b)) Q E s := by
  have L : Looks (model prog w) s.heap (specialOf (.ref a) "__setitem__") (some (.builtin "list.__setitem__")) := I.type.andThen (looks_findIn X hi)
  obtain ⟨os, hos, hcs, hds⟩ := id hs
  have hTs : s.TypeIs (.ref sl) "slice" := ⟨os, hos, hcs⟩
  have hTb : s.TypeIs (.ref b) "list" := ⟨_, hb, rfl⟩
  unfold setItem
  refine wpAny_holding (wpAny_bind (seqKey_sub X I hdq ?_))
  refine wpAny_bind ?_
  unfold callSpecial?
  refine wpAny_bind (L.here (wpAny_holding ?_))
  rw [PySem.F.slot_list_setitem.bind]
  refine wpAny_bind (wpAny_pure ?_)
  refine wpAny_bind ?_
  show wpAny _ _ (call (.builtin "list.__setitem__") [.ref a, .ref sl, .ref b]) _ _ s
  refine wpAny_call (codeAny_call_builtin PySem.F.slot_list_setitem.plain PySem.F.entry_list_setitem ?_)
  have k1 : splitId "list.__setitem__" = some ("list", "__setitem__") := by decide +kernel
  have k2 : (Manifest.find? "list").bind (·.attrs.lookup "__setitem__") = some .slot := by decide +kernel
  refine @sub_check K prog w A.in1 _ s "list.__setitem__" "__setitem__" a C (accO C dx vs n) od [.ref sl, .ref b] _ X I hsub k1 (.inl k2) (PySem.F.args_list_setitem_3 _ _ _) ?_
  show wpAny _ _ (Builtin.List.listSubscript? (.ref sl) >>= _) _ _ s
  refine wpAny_bind ?_
  unfold Builtin.List.listSubscript?
  refine wpAny_bind (wpAny_specialOf hTs slice_no_index ?_)
  simp only [Option.isNone_none, if_true]
  refine wpAny_pure ?_
  show wpAny _ _ (typeOf (.ref sl) >>= _) _ _ s
  refine wpAny_bind (wpAny_typeOf hTs ?_)
  rw [if_neg (by decide)]
  refine wpAny_bind (parts_of (vs := #[]) (n := 0) hs ?_)
  dsimp only
  have hsr : Builtin.List.listSameRef (.ref a) (.ref b) = false := by
    show (a == b) = false
    exact beq_eq_false_iff_ne.mpr hab
  rw [hsr, if_neg (by decide)]
  refine wpAny_bind ?_
  unfold Builtin.List.listAllItems
  refine wpAny_bind (wpAny_typeOf hTb ?_)
  rw [if_pos (by decide)]
  unfold Builtin.List.listItems
  refine wpAny_bind (wpAny_seqItems hb rfl (wpAny_pure ?_))
  refine wpAny_bind (wpAny_bind (wpAny_seqItems I.at_ rfl (wpAny_pure ?_)))
  refine wpAny_bind (wpAny_of_eq (sliceIndices_raw (some i) none none _ (by simp)) ?_)
  rw [bounds_from h0 (by simpa using h1)]
  dsimp only
  rw [if_pos (by decide)]
  refine wpAny_bind (wpAny_rule ?_)
  rw [if_neg (by unfold Builtin.List.listTooLong; simp [sizeLine_eq]; omega)]
  have ef : vs.toArray.extract 0 i.toNat ++ ([] : List Value).toArray ++ vs.toArray.extract (max i ((vs.toArray.size : Nat) : Int)).toNat vs.toArray.size = (vs.take i.toNat).toArray := by
    have : (max i ((vs.toArray.size : Nat) : Int)).toNat = vs.length := by simp; omega
    rw [this]
    apply Array.ext'
    simp
  refine wpAny_bind (m := Builtin.List.listUpdate (.ref a) _) ?_
  refine listUpdate_at I.at_ rfl ?_ (by rw [List.size_toArray, sizeLine_eq]; omega) (by rw [ef, List.size_toArray, List.length_take, sizeLine_eq]; omega)
  refine wpAny_bind (wpAny_letGo (wpAny_pure (wpAny_pure (wpAny_pure ?_))))
  obtain ⟨n', he⟩ : ∃ n', Obj.mapSeq (fun xs : Array Value => xs.extract 0 i.toNat ++ (([] : List Value).toArray) ++ xs.extract (max i ((vs.toArray.size : Nat) : Int)).toNat xs.size) (accO C dx vs n) = accO C dx (vs.take i.toNat) n' := by
    unfold Obj.mapSeq accO
    dsimp only
    rw [ef]
    exact ⟨_, rfl⟩
  refine hQ _ n' (Heap.SameBut.update ..) ?_
  rw [Heap.get?_update_self _ I.at_ (by rw [he]; rfl), he]
end
end Mine
end
section
open PySem PySem.W PyProof.Rows PySem.SeqAt PySem.Spec
set_option autoImplicit false
namespace Mine
variable {c : Cx} {F : Frm} {K : Frag}
noncomputable def accSl (a : D) (l : Option Int) : Mx D := fun σ => match a, l with
  | .acc j, some i => (match σ.a[j]? with
    | some A => if 0 ≤ i ∧ i ≤ A.2.length ∧ A.2.length ≤ 1000000 then some (.lst ((A.2.drop i.toNat).map part), σ) else none
    | none => none)
  | _, _ => none
theorem accSl_some {a : D} {l : Option Int} {σ σ' : MS} {d : D} (h : accSl a l σ = some (d, σ')) : ∃ j i A, a = .acc j ∧ l = some i ∧ σ.a[j]? = some A ∧ 0 ≤ i ∧ i ≤ A.2.length ∧ A.2.length ≤ 1000000 ∧ d = .lst ((A.2.drop i.toNat).map part) ∧ σ' = σ := by
  unfold accSl at h
  split at h
  · rename_i j i
    split at h
    · rename_i A hA
      split at h
      · rename_i hz
        cases h
        exact ⟨j, i, A, rfl, rfl, hA, hz.1, hz.2.1, hz.2.2, rfl, rfl⟩
      · cases h
    · cases h
  · cases h
noncomputable def accCut (a : D) (l : Option Int) : Mx Fl := fun σ => match a, l with
  | .acc j, some i => (match σ.a[j]? with
    | some A => if 0 ≤ i ∧ i ≤ A.2.length ∧ A.2.length ≤ 1000000 then some (.next, { σ with a := σ.a.set j (A.1, A.2.take i.toNat) }) else none
    | none => none)
  | _, _ => none
theorem accCut_some {a : D} {l : Option Int} {σ σ' : MS} {f : Fl} (h : accCut a l σ = some (f, σ')) : ∃ j i A, a = .acc j ∧ l = some i ∧ σ.a[j]? = some A ∧ 0 ≤ i ∧ i ≤ A.2.length ∧ A.2.length ≤ 1000000 ∧ f = .next ∧ σ' = { σ with a := σ.a.set j (A.1, A.2.take i.toNat) } := by
  unfold accCut at h
  split at h
  · rename_i j i
    split at h
    · rename_i A hA
      split at h
      · rename_i hz
        cases h
        exact ⟨j, i, A, rfl, rfl, hA, hz.1, hz.2.1, hz.2.2, rfl, rfl⟩
      · cases h
    · cases h
  · cases h
theorem part_some {v : Value} {i : Int} (h : IsPart v (some i)) : ∃ t, v = .int i t := by
  cases h with
  | int i t => exact ⟨t, rfl⟩
theorem IE_accSlice {x e : Expr} {p pos : Pos} {f : Mx D} {ml : Mx (Option Int)} (AK : AccK c K) (hdq : mroIn K c.C (.type "collections.deque") = some false) (hi : findIn K (.ref c.C) "__getitem__" = some (some (.builtin "list.__getitem__"))) (hx : IE c F x f) (hl : IP c F (some e) ml)
    (ht : ∀ o r, letTemporaryGo x o r = pure () := by intro _ _; rfl) :
    IE c F (.Subscript x (.Slice (some e) none none p) pos) (bd f fun a => bd ml fun l => accSl a l) := by
  intro A s σ g d σ' room R hm Q E hQ
  obtain ⟨a, σ1, q1, hm⟩ := bd_some hm
  obtain ⟨l, σ2, q2, hm⟩ := bd_some hm
  obtain ⟨j, i, Ac, rfl, rfl, hA, h0, h1, hz, rfl, rfl⟩ := accSl_some hm
  rw [eval_Subscript]
  refine wpAny_bind (hx A s σ g _ σ1 room R q1 _ _ fun va s1 g1 R1 d1 x1 => wpAny_bind (wpAny_holding (wpAny_Slice (hl A s1 σ1 g1 _ _ room R1 q2 _ _ fun vl s2 g2 R2 pl x2 => ?_))))
  rw [evalPart_none]
  refine wpAny_pure ?_
  refine wpAny_pure (wpAny_bind (wpAny_standAt ?_))
  obtain ⟨t, rfl⟩ := part_some pl
  have d1 := (d1.go (R1.go x2)).go (Go.push (g := g2) { cls := .type "slice", data := .fields #[.int i t, .none, .none] })
  have R5 := R2.push (tk := s2.toks) { cls := .type "slice", data := .fields #[.int i t, .none, .none] }
  have S := Heap.IsSliceOf.new s2.heap (.int i t) .none .none
  obtain ⟨b, rfl, hr⟩ := d1.accI
  obtain ⟨Ac', dx, vs, n, kk, hs, u, v, e3, hoa, hdx, hmx, dn, I⟩ := R5.wd.acc hr
  rw [hA] at e3; cases e3
  have hlen : vs.length = Ac.2.length := by simpa using dn.length
  have L : Looks (model c.prog c.w) (s2.heap.push { cls := .type "slice", data := .fields #[.int i t, .none, .none] }) (specialOf (.ref b) "__getitem__") (some (.builtin "list.__getitem__")) := I.type.andThen (looks_findIn (AK.at R5.wd) hi)
  refine wpAny_bind ?_
  rw [getitemInPython_of_ne (by simp)]
  refine wpAny_bind (L.here (wpAny_pure ?_))
  refine wpAny_bind (wpAny_operating (getitem_sub (AK.at R5.wd) I rfl AK.isl hdq hi S h0 (by rw [hlen]; exact h1) (by omega) ?_))
  refine wpAny_bind (wpAny_of_eq (ht _ _) (wpAny_pure ?_))
  have R6 := R5.push (tk := s2.toks) { cls := .type "list", data := .seq (vs.drop i.toNat).toArray }
  refine hQ _ _ g2 R6 (.lst (n := 0) (Heap.get?_push_size _ rfl) R5.new ?_) (((x1.trans x2).trans (Ext.push _)).trans (Ext.push _))
  have q := (dn.drop i.toNat).go (Go.push (g := g2) (h := s2.heap.push { cls := .type "slice", data := .fields #[.int i t, .none, .none] }) { cls := .type "list", data := .seq (vs.drop i.toNat).toArray })
  simpa [List.map_drop] using q
theorem I1_accCut {x e : Expr} {p lp spos pos : Pos} {f : Mx D} {ml : Mx (Option Int)} (AK : AccK c K) (hdq : mroIn K c.C (.type "collections.deque") = some false) (hi : findIn K (.ref c.C) "__setitem__" = some (some (.builtin "list.__setitem__"))) (hx : IE c F x f) (hl : IP c F (some e) ml)
    (hs : swapsWith (.List [] lp) (some (.Subscript x (.Slice (some e) none none p) spos)) pos.line F.env = pure false := by rfl) :
    I1 c F (.Assign [.Subscript x (.Slice (some e) none none p) spos] (.List [] lp) pos) (bd f fun a => bd ml fun l => accCut a l) := by
  intro A s σ g fl σ' room R hm Q E hQ
  obtain ⟨a, σ1, q1, hm⟩ := bd_some hm
  obtain ⟨l, σ2, q2, hm⟩ := bd_some hm
  obtain ⟨j, i, Ac, rfl, rfl, hA, h0, h1, hz, rfl, rfl⟩ := accCut_some hm
  have hnil : IE c F (.List [] lp) (bd (rt []) fun l => lf (mkL l)) := IE_list IL_nil
  refine wpAny_Assign_Subscript (hnil A s σ g (.lst []) σ room R rfl _ _ fun vb s0 g0 R0 d0 x0 => hx A s0 σ g0 _ σ1 room R0 q1 _ _ fun va s1 g1 R1 d1 x1 => wpAny_Slice (hl A s1 σ1 g1 _ _ room R1 q2 _ _ fun vl s2 g2 R2 pl x2 => ?_)) hs
  rw [evalPart_none]
  refine wpAny_pure ?_
  refine wpAny_pure ?_
  obtain ⟨t, rfl⟩ := part_some pl
  have d1 := (d1.go (R1.go x2)).go (Go.push (g := g2) { cls := .type "slice", data := .fields #[.int i t, .none, .none] })
  have d0 := ((d0.go (R0.go x1)).go (R1.go x2)).go (Go.push (g := g2) { cls := .type "slice", data := .fields #[.int i t, .none, .none] })
  have R5 := R2.push (tk := s2.toks) { cls := .type "slice", data := .fields #[.int i t, .none, .none] }
  have S := Heap.IsSliceOf.new s2.heap (.int i t) .none .none
  obtain ⟨b, rfl, hr⟩ := d1.accI
  obtain ⟨Ac', dx, vs, n, kk, hsh, u, v, e3, hoa, hdx, hmx, dn, I⟩ := R5.wd.acc hr
  rw [hA] at e3; cases e3
  have hlen : vs.length = Ac.2.length := by simpa using dn.length
  obtain ⟨b0, vs0, n0, rfl, hb, mb, rb⟩ := d0.lstI
  cases rb.nilI
  have hne : b ≠ b0 := fun q => mb (q ▸ R5.wd.rmu b (List.mem_of_getElem? hr))
  refine setitem_sub (AK.at R5.wd) I AK.isl hdq hi S hb hne h0 (by rw [hlen]; exact h1) (by omega) fun h' n' hs' ho' => ?_
  obtain ⟨R6, x6⟩ := R5.setAcc (tk := s2.toks) (l := Ac.2.take i.toNat) hr hA hoa hs' ho' (by rw [List.map_take]; exact dn.take i.toNat)
  exact hQ _ _ g2 R6 trivial ((((x0.trans x1).trans x2).trans (Ext.push _)).trans x6)
end Mine
end
section
open PySem PySem.W PyProof.Rows PySem.SeqAt PySem.Spec
set_option autoImplicit false
namespace Mine
variable {c : Cx} {F : Frm} {K : Frag}
noncomputable def DctAt (prog : Program) (w : World) (a : Addr) (l : List (Str × Int)) (g : Gh) (h : Heap) : Prop :=
  ¬ g.mu a ∧ (a == sysModules) = false ∧ ∃ kvs, h.DictOf (strKind prog w) a kvs ∧ ∀ x, match l.lookup x with
    | some z => ∃ t, valueAt kvs x = some (.int z t)
    | none => valueAt kvs x = none
theorem DctAt.go {prog : Program} {w : World} {a : Addr} {l : List (Str × Int)} {g g' : Gh} {h h' : Heap} (x : DctAt prog w a l g h) (k : ∀ b o, ¬ g.mu b → h.get? b = some o → h'.get? b = some o) (m : ∀ b o, h.get? b = some o → g'.mu b → g.mu b) : DctAt prog w a l g' h' := by
  obtain ⟨x1, x2, kvs, ⟨o, es, ep, ho, r⟩, x3⟩ := x
  exact ⟨fun q => x1 (m _ _ ho q), x2, kvs, ⟨o, es, ep, k _ _ x1 ho, r⟩, x3⟩
noncomputable def Cx.dct (c : Cx) (a : Addr) (l : List (Str × Int)) : Cx := { c with tp := fun g h => c.tp g h ∧ DctAt c.prog c.w a l g h, tpk := fun g g' h h' x k m => ⟨c.tpk g g' h h' x.1 k m, x.2.go k m⟩ }
theorem Rel.toDct {a : Addr} {l : List (Str × Int)} {σ : MS} {g : Gh} {s : Shared} (R : Rel c F σ g s) (d : DctAt c.prog c.w a l g s.heap) : Rel (c.dct a l) F σ g s :=
  ⟨⟨R.wd.base, R.wd.old, R.wd.tabc, ⟨R.wd.tp, d⟩, R.wd.mub, R.wd.os, R.wd.gens, R.wd.len, R.wd.rmu, R.wd.rnd, R.wd.accs⟩, R.fo, R.loc, R.vars, R.cellx, R.wmu, R.blen, R.bmu, R.bnd, R.box⟩
theorem Rel.ofDct {a : Addr} {l : List (Str × Int)} {σ : MS} {g : Gh} {s : Shared} (R : Rel (c.dct a l) F σ g s) : Rel c F σ g s :=
  ⟨⟨R.wd.base, R.wd.old, R.wd.tabc, R.wd.tp.1, R.wd.mub, R.wd.os, R.wd.gens, R.wd.len, R.wd.rmu, R.wd.rnd, R.wd.accs⟩, R.fo, R.loc, R.vars, R.cellx, R.wmu, R.blen, R.bmu, R.bnd, R.box⟩
theorem Ext.ofDct {a : Addr} {l : List (Str × Int)} {W : List Addr} {g g' : Gh} {h h' : Heap} (x : Ext (c.dct a l) W g g' h h') : Ext c W g g' h h' := ⟨x.keep, x.there, x.mu1, x.mu2, x.rho, x.bet⟩
theorem Rel.forget {σ : MS} {g : Gh} {s : Shared} (R : Rel c F σ g s) (i : Nat) : Rel c F { σ with v := σ.v.set i none } g s := by
  refine ⟨R.wd, R.fo, R.loc, fun j x d e1 e2 => R.vars j x d e1 ?_, R.cellx, R.wmu, R.blen, R.bmu, R.bnd, R.box⟩
  have e2 : (σ.v.set i none)[j]? = some (some d) := e2
  rw [List.getElem?_set] at e2
  split at e2
  · split at e2 <;> cases e2
  · exact e2
noncomputable def getD' (a : Addr) (l : List (Str × Int)) (d k z : D) : Option D := match d, k, z with
  | .adr b, .str x, .int n => if b = a then some (.int ((l.lookup x).getD n)) else none
  | _, _, _ => none
theorem getD'_some {a : Addr} {l : List (Str × Int)} {d k z r : D} (h : getD' a l d k z = some r) : ∃ x n, d = .adr a ∧ k = .str x ∧ z = .int n ∧ r = .int ((l.lookup x).getD n) := by
  unfold getD' at h
  split at h
  · split at h
    · rename_i hba
      cases h
      subst hba
      exact ⟨_, _, rfl, rfl, rfl, rfl⟩
    · cases h
  · cases h
theorem IE_get {a : Addr} {l : List (Str × Int)} {o e1 e2 : Expr} {apos pos : Pos} {mo m1 m2 : Mx D} (ho : IE (c.dct a l) F o mo) (h1 : IE (c.dct a l) F e1 m1) (h2 : IE (c.dct a l) F e2 m2)
    (hb : attributeBase o "get" F.env (eval o F.env) = eval o F.env := by rfl) (hline : (apos.endLine == pos.line) = true := by rfl) (htrees : backTo pos (starEach [e1, e2] F.env) = [(false, eval e1 F.env), (false, eval e2 F.env)] := by rfl) :
    IE (c.dct a l) F (.Call (.Attribute o "get" apos) [e1, e2] [] pos) (bd mo fun d => bd m1 fun k => bd m2 fun z => lf (getD' a l d k z)) := by
  intro A s σ g d σ' room R hm Q E hQ
  obtain ⟨d0, σ0, q0, hm⟩ := bd_some hm
  obtain ⟨dk, σ1, q1, hm⟩ := bd_some hm
  obtain ⟨dz, σ2, q2, hm⟩ := bd_some hm
  obtain ⟨hg, hs⟩ := lf_some hm
  dsimp only at hg hs
  subst hs
  obtain ⟨x, n, rfl, rfl, rfl, rfl⟩ := getD'_some hg
  refine wpAny_Call_method2_late hb hline htrees (ho A s σ g _ σ0 room R q0 _ _ fun v s0 g0 R0 d0 x0 => ?_)
  cases d0
  obtain ⟨u1, u2, kvs, u3, u4⟩ := R0.wd.tp.2
  refine ⟨"dict", "dict.get", PySem.F.plainAttrs_dict, PySem.F.slot_dict_get, PySem.F.type_dict_get, u3.typeIs, u3.mapOf.noDict, wpAny_dict_get2 (knd := strKind c.prog c.w) u2 ?_⟩
  refine h1 A s0 σ0 g0 _ σ1 room R0 q1 _ _ fun vk s1 g1 R1 dk1 x1 => h2 A s1 σ1 g1 _ _ room R1 q2 _ _ fun vz s2 g2 R2 dz2 x2 => ?_
  obtain ⟨w1, w2, kvs2, w3, w4⟩ := R2.wd.tp.2
  cases dk1
  cases dz2
  refine ⟨x, _, strKind_is _ _ _ _, w3.mapOf, ?_⟩
  have := w4 x
  have xx := (x0.trans x1).trans x2
  cases q : l.lookup x with
  | some z =>
    rw [q] at this
    obtain ⟨t, e⟩ := this
    rw [e]
    exact hQ _ _ g2 R2.tok (by rw [q]; exact .int _ _) xx
  | none =>
    rw [q] at this
    dsimp only at this
    rw [this]
    exact hQ _ _ g2 R2.tok (by rw [q]; exact .int _ _) xx
inductive PairsC (env : Env) : List (Sem Value × Sem Value) → List (Str × Int) → Prop
  | nil : PairsC env [] []
  | cons {x : Str} {z : Int} {k1 k2 : Nat} {p1 p2 pos : Pos} {rest : List (Sem Value × Sem Value)} {l : List (Str × Int)} : PairsC env rest l → PairsC env ((eval (.Constant (.str x) k1 p1) env, (do let y ← eval (.Constant (.int z) k2 p2) env; standAt pos; pure y)) :: rest) ((x, z) :: l)
inductive VL : List (Str × Value) → List (Str × Int) → Prop
  | nil : VL [] []
  | cons {x : Str} {z : Int} {t : Tok} {kvs : List (Str × Value)} {l : List (Str × Int)} : VL kvs l → VL ((x, .int z t) :: kvs) ((x, z) :: l)
theorem VL.keys {kvs : List (Str × Value)} {l : List (Str × Int)} (v : VL kvs l) : kvs.map (·.1) = l.map (·.1) := by
  induction v with
  | nil => rfl
  | cons _ ih => simp [ih]
theorem VL.at {kvs : List (Str × Value)} {l : List (Str × Int)} (v : VL kvs l) (x : Str) : match l.lookup x with
    | some z => ∃ t, valueAt kvs x = some (.int z t)
    | none => valueAt kvs x = none := by
  induction v with
  | nil => rfl
  | @cons y z t kvs l _ ih =>
    rw [List.lookup_cons]
    cases q : x == y with
    | true =>
      have := beq_iff_eq.mp q
      subst this
      exact ⟨t, by simp [valueAt]⟩
    | false =>
      have hne : ¬ y = x := fun e => beq_eq_false_iff_ne.mp q e.symm
      have e : valueAt ((y, Value.int z t) :: kvs) x = valueAt kvs x := by simp [valueAt, List.find?_cons, hne]
      rw [e]
      exact ih
theorem merged_nodup : ∀ (kvs acc : List (Str × Value)), ((acc ++ kvs).map (·.1)).Nodup → merged acc kvs = acc ++ kvs
  | [], acc, _ => by simp [merged]
  | (k, v) :: r, acc, h => by
    have hk : acc.any (fun kv => kv.1 = k) = false := by
      rw [List.any_eq_false]
      intro p hp e
      have e : p.1 = k := by simpa using e
      rw [List.map_append, List.nodup_append] at h
      exact h.2.2 p.1 (List.mem_map.mpr ⟨p, hp, rfl⟩) k (List.mem_map.mpr ⟨(k, v), by simp, rfl⟩) e
    have hs : stored acc k v = acc ++ [(k, v)] := by unfold stored; rw [hk]; simp
    have : merged acc ((k, v) :: r) = merged (stored acc k v) r := by simp [merged]
    rw [this, hs, merged_nodup r (acc ++ [(k, v)]) (by simpa using h)]
    simp
theorem wp_pairs {prog : Program} {w : World} {A : Around} {E : Value → Shared → Prop} {env : Env} : ∀ {ps : List (Sem Value × Sem Value)} {l : List (Str × Int)}, PairsC env ps l → ∀ (s : Shared) (Q : List (Value × Value) → Shared → Prop),
    (∀ vs kvs tk, Carries (strKind prog w) vs kvs → VL kvs l → Q vs { s with toks := tk }) → wpAny (model prog w) A (evalPairs ps) Q E s
  | _, _, .nil, s, Q, h => evalPairs_nil (h [] [] s.toks trivial .nil)
  | _, _, .cons r, s, Q, h => by
    refine evalPairs_cons (wpAny_Constant_str (wpAny_bind (wpAny_Constant_int (wpAny_bind (wpAny_standAt (wpAny_pure ?_))))))
    exact wp_pairs r _ _ fun vs kvs tk hc hv => h _ ((_, _) :: kvs) tk ⟨strKind_is _ _ _ _, rfl, hc⟩ (.cons hv)
theorem Rel.W_there {σ : MS} {g : Gh} {s : Shared} (R : Rel c F σ g s) {b : Addr} (h : b ∈ F.W g) : ∃ o, s.heap.get? b = some o := by
  unfold Frm.W at h
  rw [List.mem_append, List.mem_append] at h
  rcases h with (h | h) | h
  · exact (R.wd.mub b (R.wmu b h)).2
  · exact (R.wd.mub b (R.wd.rmu b h)).2
  · exact (R.wd.mub b (R.bmu b (mem_boxes.mp h))).2
theorem IS_dictThen (i : Nat) {x : Str} {p dpos pos : Pos} {keys : List (Option Expr)} {values : List Expr} {rest : List Stmt} {pairs : List (Sem Value × Sem Value)} {l : List (Str × Int)} {m : Addr → Mx Fl} {r : MS → Option Fl} (hx : F.names[i]? = some x) (hk : Storable F x)
    (hshape : (evalEachOpt keys F.env).zip ((evalEach values F.env).map fun v => do let x ← v; standAt dpos; pure x) = pairs.map fun p => (some p.1, p.2)) (hp : PairsC F.env pairs l) (h0 : pairs ≠ []) (hlen : pairs.length ≤ 15) (hnd : (l.map (·.1)).Nodup)
    (hrest : ∀ a, IS (c.dct a l) F rest (m a)) (hm : ∀ a σ fl, r σ = some fl → m a (wr i (.adr a) σ) = some (fl, wr i (.adr a) σ))
    (hs : swapsWith (.Dict keys values dpos) (some (.Name x p)) pos.line F.env = pure false := by rfl) :
    IS c F (.Assign [.Name x p] (.Dict keys values dpos) pos :: rest) (fun σ => (r σ).map fun fl => (fl, { σ with v := σ.v.set i none })) := by
  intro A s σ g fl σ' room R hm0 Q E hQ
  obtain ⟨fl', hr, he⟩ := Option.map_eq_some_iff.mp hm0
  cases he
  refine wpAny_execs_cons (wpAny_Assign_Name (wpAny_Dict_pairs (knd := strKind c.prog c.w) hshape h0 hlen (wp_pairs hp _ _ fun vs kvs tk hc hv => ⟨kvs, hc, ?_, fun h' hd hsb => ?_⟩)) hs)
  · exact ⟨_, _, _, Heap.get?_push_size _ rfl, ⟨rfl, rfl, rfl⟩, rfl, fun e he => by simp at he, .nil, by simp⟩
  · have hnd' : (kvs.map (·.1)).Nodup := by rw [hv.keys]; exact hnd
    rw [merged_nodup kvs [] (by simpa using hnd'), List.nil_append] at hd
    have hfr : s.heap.get? s.heap.objs.size = none := none_of_size (Nat.le_refl _)
    have old : ∀ b o, s.heap.get? b = some o → h'.get? b = some o := fun b o e => hsb.extBut b o (fun q => by rw [q, hfr] at e; cases e) (Heap.get?_push_of_some _ e)
    generalize hA : s.heap.objs.size = a at hd hsb hfr ⊢
    have R1 : Rel c F σ g { s with heap := h', toks := tk + vs.length } := R.keeps old
    have hmu : ¬ g.mu a := fun q => by
      obtain ⟨_, o, e⟩ := R.wd.mub a q
      rw [hfr] at e; cases e
    refine wp_store R1 hx hk (.adr a) fun s2 R2 x2 => ?_
    obtain ⟨o, es, ep, ho, hrr⟩ := hd
    have hoW : s2.heap.get? a = some o := x2.keep a o (fun q => by
      obtain ⟨o', e⟩ := R.W_there q
      rw [hfr] at e; cases e) (fun t => by
      have h1 := R.wd.tlow t
      have h2 := R.wd.size
      rw [← hA] at h1
      exact Nat.lt_irrefl _ (Nat.lt_of_lt_of_le h1 h2)) ho
    have hsys : (a == sysModules) = false := by
      refine beq_eq_false_iff_ne.mpr fun q => ?_
      have h2 := R.wd.size
      obtain ⟨og, _, _, hg, _⟩ := c.gns
      have h3 := Heap.lt_size hg
      rw [hA, q] at h2
      exact absurd (Nat.lt_of_lt_of_le h3 h2) (by decide)
    have D : DctAt c.prog c.w a l g s2.heap := ⟨hmu, hsys, kvs, ⟨o, es, ep, hoW, hrr⟩, hv.at⟩
    have xx : Ext c (F.W g) g g s.heap s2.heap := (Ext.keeps old).trans x2
    refine hrest a A s2 _ g _ _ room (R2.toDct D) (hm a σ _ hr) Q E fun f s3 g3 R3 d3 x3 => ?_
    have R4 := R3.ofDct.forget i
    have e : ({ wr i (.adr a) σ with v := (wr i (.adr a) σ).v.set i none } : MS) = { σ with v := σ.v.set i none } := by
      unfold wr; simp
    rw [e] at R4
    exact hQ f s3 g3 R4 d3 (xx.trans x3.ofDct)
end Mine
end
section
open PySem PySem.W PyProof.Rows PySem.SeqAt PySem.Spec
set_option autoImplicit false
namespace Mine
variable {c : Cx} {F : Frm}
theorem IT_or3 {x y z : Expr} {pos : Pos} {mx my mz : Mx Bool} (hx : IT c F x mx) (hy : IT c F y my) (hz : IT c F z mz) : IT c F (.BoolOp .Or [x, y, z] pos) (bd mx fun b => if b then rt true else (bd my fun b => if b then rt true else mz)) := by
  intro A s σ g d σ' room R hm Q E hQ
  obtain ⟨b, σ1, h1, hm⟩ := bd_some hm
  refine wpAny_isTrue_BoolOp (wpAny_allTrue_Or_cons (hx A s σ g b σ1 room R h1 _ _ fun s1 g1 R1 x1 => ?_))
  cases b with
  | true => cases hm; exact hQ s1 g1 R1 x1
  | false =>
    have hm : (bd my fun b => if b then rt true else mz) σ1 = some (d, σ') := hm
    obtain ⟨b, σ2, h2, hm⟩ := bd_some hm
    refine wpAny_allTrue_Or_cons (hy A s1 σ1 g1 b σ2 room R1 h2 _ _ fun s2 g2 R2 x2 => ?_)
    cases b with
    | true => cases hm; exact hQ s2 g2 R2 (x1.trans x2)
    | false =>
      have hm : mz σ2 = some (d, σ') := hm
      refine wpAny_allTrue_Or_cons (hz A s2 σ2 g2 d σ' room R2 hm _ _ fun s3 g3 R3 x3 => ?_)
      have q := hQ s3 g3 R3 ((x1.trans x2).trans x3)
      cases d with
      | true => exact q
      | false => exact wpAny_allTrue_Or_nil q
end Mine
end
section
open PySem PySem.W
set_option autoImplicit false
namespace Mine
theorem lt3 : ∀ q, q < 3 → q = 0 ∨ q = 1 ∨ q = 2 := by decide
theorem lt8 : ∀ r, r < 8 → r = 0 ∨ r = 1 ∨ r = 2 ∨ r = 3 ∨ r = 4 ∨ r = 5 ∨ r = 6 ∨ r = 7 := by decide
theorem sq_next {m k : Mx Fl} {σ σ' : MS} (h : m σ = some (.next, σ')) : sq m k σ = k σ' := by unfold sq bd; rw [h]
theorem sq_ret {m k : Mx Fl} {σ σ' : MS} {d : D} (h : m σ = some (.ret d, σ')) : sq m k σ = some (.ret d, σ') := by unfold sq bd; rw [h]; rfl
theorem sq_brk {m k : Mx Fl} {σ σ' : MS} (h : m σ = some (.brk, σ')) : sq m k σ = some (.brk, σ') := by unfold sq bd; rw [h]; rfl
theorem bd_ev {α β : Type} {m : Mx α} {f : α → Mx β} {σ σ' : MS} {a : α} (h : m σ = some (a, σ')) : bd m f σ = f a σ' := by unfold bd; rw [h]
theorem rd_ev {i : Nat} {σ : MS} {d : D} (h : σ.v[i]? = some (some d)) : rd i σ = some (d, σ) := by unfold rd; rw [h]
theorem fnP_ret {n N : Nat} {m : Mx Fl} {ds : List D} {al : List Acc} {d d' : D} {σ : MS} (hn : ds.length = n) (h : m ⟨ds.map some ++ List.replicate (N - n) none, al, []⟩ = some (.ret d, σ)) (hf : frz σ.b d = some d') : fnP n N m ds al = some (d', σ.a) := by
  unfold fnP; rw [if_pos hn, h]; simp [hf]
theorem fnP_next {n N : Nat} {m : Mx Fl} {ds : List D} {al : List Acc} {σ : MS} (hn : ds.length = n) (h : m ⟨ds.map some ++ List.replicate (N - n) none, al, []⟩ = some (.next, σ)) : fnP n N m ds al = some (.none, σ.a) := by
  unfold fnP; rw [if_pos hn, h]
mutual
theorem frz_noB (b : List (List D)) : ∀ (d : D), noB d = true → frz b d = some d
  | .none, _ => rfl
  | .bool _, _ => rfl
  | .int _, _ => rfl
  | .str _, _ => rfl
  | .acc _, _ => rfl
  | .adr _, _ => rfl
  | .tup l, h => by unfold noB at h; unfold frz; rw [frzs_noB b l h]; rfl
  | .lst l, h => by unfold noB at h; unfold frz; rw [frzs_noB b l h]; rfl
  | .box _, h => by unfold noB at h; cases h
theorem frzs_noB (b : List (List D)) : ∀ (l : List D), noBs l = true → frzs b l = some l
  | [], _ => rfl
  | d :: l, h => by
    unfold noBs at h
    rw [Bool.and_eq_true] at h
    unfold frzs
    rw [frz_noB b d h.1, frzs_noB b l h.2]
end
theorem callM_ev {p : List D → List Acc → Option (D × List Acc)} {ds : List D} {σ : MS} {d : D} {al : List Acc} (hb : noBs ds = true) (h : p ds σ.a = some (d, al)) : callM p ds σ = some (d, ⟨σ.v, al, σ.b⟩) := by
  unfold callM; rw [if_pos hb, h]
theorem noBs_map {α : Type} (f : α → D) (h : ∀ a, noB (f a) = true) : ∀ l : List α, noBs (l.map f) = true
  | [] => rfl
  | a :: l => by simp [noBs, h a, noBs_map f h l]
noncomputable def S (l : List Nat) : Str := ⟨l.toArray⟩
theorem S_length (l : List Nat) : (S l).length = l.length := by simp [S, Str.length]
theorem S_append (a b : List Nat) : S a ++ S b = S (a ++ b) := by
  show (⟨(S a).cps ++ (S b).cps⟩ : Str) = _
  simp [S]
theorem S_inj {a b : List Nat} (h : S a = S b) : a = b := by
  have := congrArg (fun x : Str => x.cps.toList) h
  simpa [S] using this
noncomputable abbrev dS (l : List Nat) : D := .str (S l)
theorem seqD_S (l : List Nat) : seqD (dS l) = some (l.map fun ch => dS [ch]) := by simp [seqD, S]
theorem aug_ev {e : Mx D} {i : Nat} {σ : MS} {y z : List Nat} (hy : σ.v[i]? = some (some (dS y))) (he : e σ = some (dS z, σ)) (hz : y.length + z.length ≤ 1000000) :
    (bd (rd i) fun a => bd e fun b => match a, b with | .str y, .str z => if y.length + z.length ≤ 1000000 then fun σ => some (.next, wr i (.str (y ++ z)) σ) else fun _ => none | _, _ => fun _ => none : Mx Fl) σ = some (.next, wr i (dS (y ++ z)) σ) := by
  rw [bd_ev (rd_ev hy), bd_ev he]
  dsimp only
  rw [if_pos (by rw [S_length, S_length]; exact hz), S_append]
theorem loop_next {asg : D → MS → Option MS} {body els : Mx Fl} {d : D} {ds : List D} {σ σ1 σ2 : MS} (h1 : asg d σ = some σ1) (h2 : body σ1 = some (.next, σ2)) : loopM asg body els (d :: ds) σ = loopM asg body els ds σ2 := by
  rw [loopM.eq_2]; simp only [h1, h2]
theorem loop_brk {asg : D → MS → Option MS} {body els : Mx Fl} {d : D} {ds : List D} {σ σ1 σ2 : MS} (h1 : asg d σ = some σ1) (h2 : body σ1 = some (.brk, σ2)) : loopM asg body els (d :: ds) σ = some (.next, σ2) := by
  rw [loopM.eq_2]; simp only [h1, h2]
theorem cls_cons {asg : D → MS → Option MS} {m : Mx (List D)} {d : D} {ds o1 o2 : List D} {σ σ1 σ2 σ3 : MS} (h1 : asg d σ = some σ1) (h2 : m σ1 = some (o1, σ2)) (h3 : clsM asg m ds σ2 = some (o2, σ3)) : clsM asg m (d :: ds) σ = some (o1 ++ o2, σ3) := by
  rw [clsM.eq_2]; simp only [h1, h2, h3]
theorem comp_ev {n : Nat} {is : List Nat} {mi : Mx (List D)} {asg : D → MS → Option MS} {m : Mx (List D)} {σ σ1 σ2 : MS} {ds out : List D} (h1 : mi σ = some (ds, σ1)) (h2 : clsM asg m ds (capV n is σ1) = some (out, σ2)) (hz : out.length ≤ 1000000) : compM n is mi asg m σ = some (.lst out, ⟨σ1.v, σ2.a, σ2.b⟩) := by
  unfold compM
  rw [bd_ev h1, h2]
  exact if_pos hz
end Mine
end
section
open PySem PySem.W
set_option autoImplicit false
namespace Mine
theorem filt_run {α : Type} (l : List α) (a b : Nat) : ((List.range b).map (a + ·)).filterMap (l[·]?) = (l.drop a).take b := by
  induction b generalizing a l with
  | zero => simp
  | succ b ih =>
    rw [List.range_succ_eq_map, List.map_cons, List.map_map, Nat.add_zero, List.filterMap_cons]
    have e : ((List.range b).map ((a + ·) ∘ Nat.succ)) = (List.range b).map ((a + 1) + ·) := by
      apply List.map_congr_left; intro k _; simp only [Function.comp]; omega
    rw [e, ih]
    cases q : l[a]? with
    | none =>
      have := List.getElem?_eq_none_iff.mp q
      rw [List.drop_of_length_le this, List.drop_of_length_le (Nat.le_succ_of_le this)]
      simp
    | some x =>
      obtain ⟨h, rfl⟩ := List.getElem?_eq_some_iff.mp q
      rw [List.drop_eq_getElem_cons h, List.take_succ_cons]
theorem pickL_plain {α : Type} (l : List α) (lo hi : Option Int) : pickL l lo hi none = (l.drop (lo.elim 0 (clipAt l.length))).take (hi.elim l.length (clipAt l.length) - lo.elim 0 (clipAt l.length)) := by
  unfold pickL
  rw [sliceBounds_plain]
  simp only [sliceRange_one, filt_run]
theorem pickL_take {α : Type} (l : List α) (n : Nat) : pickL l none (some (n : Int)) none = l.take n := by
  rw [pickL_plain]
  simp only [Option.elim, clipAt_nat, List.drop_zero, Nat.sub_zero]
  rcases Nat.le_total n l.length with h | h
  · rw [Nat.min_eq_left h]
  · rw [Nat.min_eq_right h, List.take_of_length_le (Nat.le_refl _), List.take_of_length_le h]
theorem pickL_drop {α : Type} (l : List α) (n : Nat) : pickL l (some (n : Int)) none none = l.drop n := by
  rw [pickL_plain]
  simp only [Option.elim, clipAt_nat]
  rcases Nat.le_total n l.length with h | h
  · rw [Nat.min_eq_left h, List.take_of_length_le (by simp)]
  · rw [Nat.min_eq_right h, List.drop_of_length_le (Nat.le_refl _), List.drop_of_length_le h]; simp
theorem pickL_mid {α : Type} (l : List α) (a b : Nat) (hb : b ≤ l.length) (h : a ≤ b) : pickL l (some (a : Int)) (some (b : Int)) none = (l.drop a).take (b - a) := by
  rw [pickL_plain]
  simp only [Option.elim, clipAt_nat]
  rw [Nat.min_eq_left hb, Nat.min_eq_left (Nat.le_trans h hb)]
theorem pickL_rev {α : Type} (l : List α) : pickL l none none (some (-1)) = l.reverse := by
  unfold pickL
  have e : sliceBounds none none (some (-1)) l.length = ((l.length : Int) - 1, -1, -1) := by simp [sliceBounds]
  rw [e]
  have e2 : sliceRange ((l.length : Int) - 1) (-1) (-1) = (List.range l.length).map fun k => l.length - 1 - k := by
    unfold sliceRange
    have : ((if (-1 : Int) > 0 then (if ((l.length : Int) - 1) < -1 then (-1 - ((l.length : Int) - 1) + -1 - 1) / -1 else 0) else (if ((l.length : Int) - 1) > -1 then (((l.length : Int) - 1) - -1 - -1 - 1) / (- -1) else 0))).toNat = l.length := by
      rw [if_neg (by decide)]
      split
      · simp
      · omega
    simp only [this]
    apply List.map_congr_left
    intro k hk
    have := List.mem_range.mp hk
    omega
  rw [e2]
  have key : ∀ (n : Nat), n ≤ l.length → ((List.range n).map fun k => l.length - 1 - k).filterMap (l[·]?) = (l.reverse).take n := by
    intro n
    induction n with
    | zero => simp
    | succ n ih =>
      intro hn
      rw [List.range_succ, List.map_append, List.filterMap_append, ih (by omega)]
      have : l[l.length - 1 - n]? = some (l[l.length - 1 - n]'(by omega)) := List.getElem?_eq_getElem _
      simp only [List.map_cons, List.map_nil, List.filterMap_cons, this, List.filterMap_nil]
      rw [List.take_add_one]
      congr 1
      rw [List.getElem?_reverse (by omega), this]
      rfl
  rw [key l.length (Nat.le_refl _), List.take_of_length_le (by simp)]
theorem pickS_eq (l : List Nat) (lo hi st : Option Int) : pickS (S l) lo hi st = S (pickL l lo hi st) := by
  unfold pickS pickL
  have e : Builtin.Str.strSliceIndices lo hi (st.getD 1) (S l).length = sliceRange (sliceBounds lo hi st l.length).1 (sliceBounds lo hi st l.length).2.1 (sliceBounds lo hi st l.length).2.2 := by
    rw [S_length]; rfl
  rw [e]
  simp [S]
theorem seqIndex_nat {k n : Nat} (h : k < n) : seqIndex? (k : Int) n = some k := by
  unfold seqIndex?
  have : ¬ ((k : Int) < 0) := by omega
  simp [this, h]
theorem itemL_nat {l : List D} {k : Nat} {d : D} (h : l[k]? = some d) (hk : k < 2 ^ 62) : itemL l (k : Int) = some d := by
  unfold itemL
  have := (List.getElem?_eq_some_iff.mp h).1
  rw [if_pos ⟨by omega, by omega⟩, seqIndex_nat this]
  exact h
theorem itemS_nat {l : List Nat} {k : Nat} {c : Nat} (h : l[k]? = some c) (hk : k < 2 ^ 62) : itemS (S l) (k : Int) = some (dS [c]) := by
  unfold itemS
  have := (List.getElem?_eq_some_iff.mp h).1
  rw [if_pos ⟨by omega, by omega⟩, S_length, seqIndex_nat this]
  simp [S, h]
theorem app_ev {e : Mx D} {i k : Nat} {σ : MS} {l : List D} {d : D} (hv : σ.v[i]? = some (some (.box k))) (hb : σ.b[k]? = some l) (he : e σ = some (d, σ)) (hz : l.length < 1000000) :
    (bd (bd (rd i) fun d => if isBox d then bd (bd e fun d => bd (rt []) fun ds => rt (d :: ds)) fun ds => appM (d :: ds) else fun _ => none) fun d => match d with | .none => rt .next | _ => fun _ => none : Mx Fl) σ = some (.next, { σ with b := σ.b.set k (l ++ [d]) }) := by
  have h1 : (bd (rd i) fun d => if isBox d then bd (bd e fun d => bd (rt []) fun ds => rt (d :: ds)) fun ds => appM (d :: ds) else fun _ => none : Mx D) σ = some (.none, { σ with b := σ.b.set k (l ++ [d]) }) := by
    rw [bd_ev (rd_ev hv)]
    show (bd (bd e fun d => bd (rt []) fun ds => rt (d :: ds)) fun ds => appM (.box k :: ds)) σ = _
    have h2 : (bd e fun d => bd (rt []) fun ds => rt (d :: ds)) σ = some ([d], σ) := by rw [bd_ev he]; rfl
    rw [bd_ev h2]
    show (match σ.b[k]? with | some l => if l.length < 1000000 then some (D.none, { σ with b := σ.b.set k (l ++ [d]) }) else none | none => none) = _
    rw [hb]
    exact if_pos hz
  rw [bd_ev h1]; rfl
theorem sq_rt (m : Mx Fl) : sq m (rt .next) = m := by
  funext σ
  unfold sq bd
  cases q : m σ with
  | none => rfl
  | some p =>
    obtain ⟨f, σ'⟩ := p
    cases f <;> rfl
theorem if_ev {α : Type} {t : Mx Bool} {A B : Mx α} {σ σ' : MS} {b : Bool} (h : t σ = some (b, σ')) : (bd t fun x => if x then A else B) σ = if b then A σ' else B σ' := by
  rw [bd_ev h]; cases b <;> rfl
end Mine
end
section
open PySem PySem.W
namespace Mine
theorem cap1 {P : Nat → Str → Prop} {x : Str} (h : P 0 x) : ∀ (j : Nat) y, [x][j]? = some y → P j y
  | 0, _, e => by cases e; exact h
  | _ + 1, _, e => nomatch e
theorem cap2 {P : Nat → Str → Prop} {x z : Str} (h : P 0 x) (h2 : P 1 z) : ∀ (j : Nat) y, [x, z][j]? = some y → P j y
  | 0, _, e => by cases e; exact h
  | 1, _, e => by cases e; exact h2
  | _ + 2, _, e => nomatch e
theorem all1 {P : List Value → Prop} (h : ∀ a, P [a]) : ∀ vs : List Value, vs.length = 1 → P vs
  | [a], _ => h a
theorem all2 {P : List Value → Prop} (h : ∀ a b, P [a, b]) : ∀ vs : List Value, vs.length = 2 → P vs
  | [a, b], _ => h a b
theorem all3 {P : List Value → Prop} (h : ∀ a b c, P [a, b, c]) : ∀ vs : List Value, vs.length = 3 → P vs
  | [a, b, c], _ => h a b c
theorem all4 {P : List Value → Prop} (h : ∀ a b c d, P [a, b, c, d]) : ∀ vs : List Value, vs.length = 4 → P vs
  | [a, b, c, d], _ => h a b c d
noncomputable def p_part_count : List D → List Acc → Option (D × List Acc) := fnP 1 1 (bd slenM fun d => rt (.ret d))
noncomputable def m_pop : Mx Fl := sq (bd (bd (bd (rd 0) fun d => if isAcc d then callM p_part_count [d] else fun _ => none) fun a => bd (rt (.int 0)) fun b => lf (eqD a b)) fun x => if x then sq (bd (bd (bd (rt (.str "")) fun d => bd (bd (rt (.str "")) fun d => bd (rt []) fun ds => rt (d :: ds)) fun ds => rt (d :: ds)) fun l => lf (mkT l)) fun d => rt (.ret d)) (rt .next) else rt .next) (bd spopM fun d => rt (.ret d))
noncomputable def p_pop : List D → List Acc → Option (D × List Acc) := fnP 1 1 m_pop
noncomputable def m_push : Mx Fl := sq (bd (bd (rd 0) fun d => if isAcc d then bd (bd (bd (bd (rd 1) fun d => bd (bd (rd 2) fun d => bd (rt []) fun ds => rt (d :: ds)) fun ds => rt (d :: ds)) fun l => lf (mkT l)) fun d => bd (rt []) fun ds => rt (d :: ds)) fun ds => accApp (d :: ds) else fun _ => none) fun d => match d with | .none => rt .next | _ => fun _ => none) (rt .next)
noncomputable def p_push : List D → List Acc → Option (D × List Acc) := fnP 3 3 m_push
noncomputable def p_len : List D → List Acc → Option (D × List Acc) := fnP 1 1 (sq (bd sumM fun d => rt (.ret d)) (rt .next))
noncomputable def p_str : List D → List Acc → Option (D × List Acc) := fnP 1 1 (sq (bd strM fun d => rt (.ret d)) (rt .next))
noncomputable def exPF : List D → Option (List D)
  | [a] => some [a, .int 0]
  | [a, b] => some [a, b]
  | _ => none
noncomputable def p_pop_from : List D → List Acc → Option (D × List Acc) := exP exPF (fnP 2 3 (sq (bd (bd (rd 0) fun a => bd (bd (rd 1) fun d => lf (asI d)) fun l => accSl a l) fun d => fun σ => some (.next, wr 2 d σ)) (sq (bd (rd 0) fun a => bd (bd (rd 1) fun d => lf (asI d)) fun l => accCut a l) (sq (bd (rd 2) fun d => rt (.ret d)) (rt .next)))))
noncomputable def dT (l : List (Int × Str)) : D := .tup (l.map fun p => .tup [.int p.1, .str p.2])
noncomputable def dTable : D := .tup [dT [(40960, "l"), (49152, "s"), (32768, "-"), (24576, "b"), (16384, "d"), (8192, "c"), (4096, "p")], dT [(256, "r")], dT [(128, "w")], dT [(2112, "s"), (2048, "S"), (64, "x")],
  dT [(32, "r")], dT [(16, "w")], dT [(1032, "s"), (1024, "S"), (8, "x")], dT [(4, "r")], dT [(2, "w")], dT [(513, "t"), (512, "T"), (1, "x")]]
noncomputable def x_S_IFMT_0 : Mx D := bd (rd 0) fun a => bd (rt (.int 61440)) fun b => lf (andD a b)
noncomputable def s_S_IFMT_0 : Mx Fl := bd x_S_IFMT_0 fun d => rt (.ret d)
noncomputable def m_S_IFMT : Mx Fl := sq s_S_IFMT_0 (rt .next)
noncomputable def p_S_IFMT : List D → List Acc → Option (D × List Acc) := fnP 1 1 m_S_IFMT
noncomputable def s_filemode_0 : Mx Fl := bd (bd (rt []) fun l => fun σ => if l.length ≤ 1000000 then some (.box σ.b.length, { σ with b := σ.b ++ [l] }) else none) fun d => fun σ => some (.next, wr 1 d σ)
noncomputable def t_filemode_0 : Mx Bool := bd (rd 2) fun a => bd (rt (.int 0)) fun b => lf (eqD a b)
noncomputable def t_filemode_1 : Mx Bool := bd (bd (bd (rd 0) fun d => bd (rt []) fun ds => rt (d :: ds)) fun ds => callM p_S_IFMT ds) fun a => bd (rd 4) fun b => lf (eqD a b)
noncomputable def x_filemode_0 : Mx D := bd (rd 1) fun d => if isBox d then bd (bd (rd 5) fun d => bd (rt []) fun ds => rt (d :: ds)) fun ds => appM (d :: ds) else fun _ => none
noncomputable def t_filemode_2 : Mx Bool := bd (bd (rd 0) fun a => bd (rd 4) fun b => lf (andD a b)) fun a => bd (rd 4) fun b => lf (eqD a b)
noncomputable def x_filemode_1 : Mx D := bd (rd 1) fun d => if isBox d then bd (bd (rd 5) fun d => bd (rt []) fun ds => rt (d :: ds)) fun ds => appM (d :: ds) else fun _ => none
noncomputable def t_filemode_3 : Mx Bool := bd (rd 2) fun a => bd (rt (.int 0)) fun b => lf (eqD a b)
noncomputable def x_filemode_2 : Mx D := bd (rd 1) fun d => if isBox d then bd (bd (rt (.str "?")) fun d => bd (rt []) fun ds => rt (d :: ds)) fun ds => appM (d :: ds) else fun _ => none
noncomputable def x_filemode_3 : Mx D := bd (rd 1) fun d => if isBox d then bd (bd (rt (.str "-")) fun d => bd (rt []) fun ds => rt (d :: ds)) fun ds => appM (d :: ds) else fun _ => none
noncomputable def b_filemode_0 : Mx Fl := sq (bd t_filemode_0 fun x => if x then (sq (bd t_filemode_1 fun x => if x then (sq (bd x_filemode_0 fun d => match d with | .none => rt .next | _ => fun _ => none) (sq (rt .brk) (rt .next))) else (rt .next)) (rt .next)) else (sq (bd t_filemode_2 fun x => if x then (sq (bd x_filemode_1 fun d => match d with | .none => rt .next | _ => fun _ => none) (sq (rt .brk) (rt .next))) else (rt .next)) (rt .next))) (rt .next)
noncomputable def o_filemode_0 : Mx Fl := sq (bd t_filemode_3 fun x => if x then (sq (bd x_filemode_2 fun d => match d with | .none => rt .next | _ => fun _ => none) (rt .next)) else (sq (bd x_filemode_3 fun d => match d with | .none => rt .next | _ => fun _ => none) (rt .next))) (rt .next)
noncomputable def i_filemode_0 : Mx (List D) := bd (rd 3) fun d => lf (itM true d)
noncomputable def b_filemode_1 : Mx Fl := sq (bd i_filemode_0 fun ds => loopM (fun d σ => match unD [] d with | some l => if l.length = 2 then some (wrs [4, 5] l σ) else none | none => none) b_filemode_0 o_filemode_0 ds) (rt .next)
noncomputable def o_filemode_1 : Mx Fl := rt .next
noncomputable def i_filemode_1 : Mx (List D) := bd (bd (rt dTable) fun d => bd (rt []) fun ds => rt (d :: ds)) fun l => lf (enum1 l)
noncomputable def s_filemode_1 : Mx Fl := bd i_filemode_1 fun ds => loopM (fun d σ => match unD [] d with | some l => if l.length = 2 then some (wrs [2, 3] l σ) else none | none => none) b_filemode_1 o_filemode_1 ds
noncomputable def x_filemode_4 : Mx D := bd (rt (.str "")) fun d => if isStr d then bd (bd (rd 1) fun d => bd (rt []) fun ds => rt (d :: ds)) fun ds => joinM (d :: ds) else fun _ => none
noncomputable def s_filemode_2 : Mx Fl := bd x_filemode_4 fun d => rt (.ret d)
noncomputable def m_filemode : Mx Fl := sq s_filemode_0 (sq s_filemode_1 (sq s_filemode_2 (rt .next)))
noncomputable def p_filemode : List D → List Acc → Option (D × List Acc) := fnP 1 6 m_filemode
noncomputable def x_law_modes_0 : Mx D := bd (bd (rd 0) fun a => bd (rt none) fun l => bd (bd (rt (.int 6)) fun d => lf (asI d)) fun u => bd (rt none) fun t => fun σ => (sliceD σ.b l u t a).map fun d => (d, σ)) fun a => bd (bd (bd (bd (rt (.int 0)) fun d => bd (bd (rt (.int 0)) fun d => bd (bd (rt (.int 0)) fun d => bd (bd (rt (.int 0)) fun d => bd (rt []) fun ds => rt (d :: ds)) fun ds => rt (d :: ds)) fun ds => rt (d :: ds)) fun ds => rt (d :: ds)) fun l => lf (mkL l)) fun a => bd (bd (bd (bd (rd 0) fun d => bd (rt []) fun ds => rt (d :: ds)) lenM) fun d => lf (asI d)) fun l => bd (rt none) fun u => bd (rt none) fun t => fun σ => (sliceD σ.b l u t a).map fun d => (d, σ)) fun b => lf (addD a b)
noncomputable def s_law_modes_0 : Mx Fl := bd x_law_modes_0 fun d => fun σ => some (.next, wr 1 d σ)
noncomputable def x_law_modes_1 : Mx D := bd (bd (rt (.int 33181)) fun d => bd (bd (rt (.int 17388)) fun d => bd (bd (rt (.int 44391)) fun d => bd (bd (rt (.int 19437)) fun d => bd (bd (rt (.int 0)) fun d => bd (bd (rt (.int 0)) fun d => bd (rt []) fun ds => rt (d :: ds)) fun ds => rt (d :: ds)) fun ds => rt (d :: ds)) fun ds => rt (d :: ds)) fun ds => rt (d :: ds)) fun ds => rt (d :: ds)) fun l => lf (mkL l)
noncomputable def s_law_modes_1 : Mx Fl := bd x_law_modes_1 fun d => fun σ => some (.next, wr 2 d σ)
noncomputable def e_law_modes_0 : Mx (List D) := bd (bd (bd (rd 0) fun a => bd (rd 1) fun b => lf (addD a b)) fun a => bd (rt (.int 65536)) fun b => lf (modD a b)) fun d => rt [d]
noncomputable def x_law_modes_2 : Mx D := compM 2 [] (bd (bd (rd 2) fun d => bd (bd (rd 1) fun d => bd (rt []) fun ds => rt (d :: ds)) fun ds => rt (d :: ds)) fun l => lf (zip2 l)) (fun d σ => match unD [] d with | some l => if l.length = 2 then some (wrs [0, 1] l σ) else none | none => none) (e_law_modes_0)
noncomputable def s_law_modes_2 : Mx Fl := bd x_law_modes_2 fun d => rt (.ret d)
noncomputable def m_law_modes : Mx Fl := sq s_law_modes_0 (sq s_law_modes_1 (sq s_law_modes_2 (rt .next)))
noncomputable def p_law_modes : List D → List Acc → Option (D × List Acc) := fnP 1 3 m_law_modes
noncomputable def x_law_row_0 : Mx D := bd (rt (.str "?pc?d?b?-?l?s???")) fun a => bd (bd (rd 0) fun a => bd (rt (.int 4096)) fun b => lf (divD a b)) fun b => fun σ => (itemD σ.b a b).map fun d => (d, σ)
noncomputable def s_law_row_0 : Mx Fl := bd x_law_row_0 fun d => fun σ => some (.next, wr 1 d σ)
noncomputable def x_law_row_1 : Mx D := bd (bd (rd 0) fun a => bd (bd (rt (.int 8)) fun a => bd (bd (rt (.int 2)) fun a => bd (rd 2) fun b => lf (subD a b)) fun b => lf (powD a b)) fun b => lf (divD a b)) fun a => bd (rt (.int 8)) fun b => lf (modD a b)
noncomputable def x_law_row_2 : Mx D := bd (bd (bd (rd 3) fun a => bd (rt (.int 3)) fun b => lf (gtD a b)) fun x => if x then (rt (.str "r")) else (rt (.str "-"))) fun a => bd (bd (bd (bd (bd (rd 3) fun a => bd (rt (.int 2)) fun b => lf (divD a b)) fun a => bd (rt (.int 2)) fun b => lf (modD a b)) fun a => bd (rt (.int 1)) fun b => lf (eqD a b)) fun x => if x then (rt (.str "w")) else (rt (.str "-"))) fun b => lf (addD a b)
noncomputable def x_law_row_3 : Mx D := bd (bd (bd (rd 2) fun a => bd (rt (.int 2)) fun b => lf (ltD a b)) fun x => if x then (rt (.str "-xSs")) else (rt (.str "-xTt"))) fun a => bd (bd (bd (rd 3) fun a => bd (rt (.int 2)) fun b => lf (modD a b)) fun a => bd (bd (bd (bd (rd 0) fun a => bd (bd (rt (.int 2)) fun a => bd (bd (rt (.int 11)) fun a => bd (rd 2) fun b => lf (subD a b)) fun b => lf (powD a b)) fun b => lf (divD a b)) fun a => bd (rt (.int 2)) fun b => lf (modD a b)) fun a => bd (rt (.int 2)) fun b => lf (mulD a b)) fun b => lf (addD a b)) fun b => fun σ => (itemD σ.b a b).map fun d => (d, σ)
noncomputable def b_law_row_0 : Mx Fl := sq (bd x_law_row_1 fun d => fun σ => some (.next, wr 3 d σ)) (sq (bd (rd 1) fun a => bd (x_law_row_2) fun b => match a, b with | .str y, .str z => if y.length + z.length ≤ 1000000 then fun σ => some (.next, wr 1 (.str (y ++ z)) σ) else fun _ => none | _, _ => fun _ => none) (sq (bd (rd 1) fun a => bd (x_law_row_3) fun b => match a, b with | .str y, .str z => if y.length + z.length ≤ 1000000 then fun σ => some (.next, wr 1 (.str (y ++ z)) σ) else fun _ => none | _, _ => fun _ => none) (rt .next)))
noncomputable def o_law_row_0 : Mx Fl := rt .next
noncomputable def i_law_row_0 : Mx (List D) := bd (bd (rt (.int 3)) fun d => bd (rt []) fun ds => rt (d :: ds)) fun l => lf (range1 l)
noncomputable def s_law_row_1 : Mx Fl := bd i_law_row_0 fun ds => loopM (fun d σ => some (wr 2 d σ)) b_law_row_0 o_law_row_0 ds
noncomputable def x_law_row_4 : Mx D := rd 1
noncomputable def s_law_row_2 : Mx Fl := bd x_law_row_4 fun d => rt (.ret d)
noncomputable def m_law_row : Mx Fl := sq s_law_row_0 (sq s_law_row_1 (sq s_law_row_2 (rt .next)))
noncomputable def p_law_row : List D → List Acc → Option (D × List Acc) := fnP 1 4 m_law_row
noncomputable def x_law_next_0 : Mx D := bd (bd (rd 0) fun a => bd (bd (rt (.int 8)) fun a => bd (bd (rt (.int 2)) fun a => bd (rd 1) fun b => lf (subD a b)) fun b => lf (powD a b)) fun b => lf (divD a b)) fun a => bd (rt (.int 8)) fun b => lf (modD a b)
noncomputable def s_law_next_0 : Mx Fl := bd x_law_next_0 fun d => fun σ => some (.next, wr 2 d σ)
noncomputable def x_law_next_1 : Mx D := bd (bd (bd (bd (bd (rd 2) fun a => bd (rt (.int 4)) fun b => lf (divD a b)) fun a => bd (bd (bd (bd (rd 2) fun a => bd (rt (.int 2)) fun b => lf (divD a b)) fun a => bd (rt (.int 2)) fun b => lf (modD a b)) fun a => bd (rt (.int 2)) fun b => lf (mulD a b)) fun b => lf (addD a b)) fun a => bd (bd (rd 2) fun a => bd (rt (.int 2)) fun b => lf (modD a b)) fun b => lf (addD a b)) fun a => bd (bd (bd (bd (rd 0) fun a => bd (bd (rt (.int 2)) fun a => bd (bd (rt (.int 11)) fun a => bd (rd 1) fun b => lf (subD a b)) fun b => lf (powD a b)) fun b => lf (divD a b)) fun a => bd (rt (.int 2)) fun b => lf (modD a b)) fun a => bd (rt (.int 2)) fun b => lf (mulD a b)) fun b => lf (addD a b)) fun a => bd (rt (.int 3)) fun b => lf (modD a b)
noncomputable def s_law_next_1 : Mx Fl := bd x_law_next_1 fun d => rt (.ret d)
noncomputable def m_law_next : Mx Fl := sq s_law_next_0 (sq s_law_next_1 (rt .next))
noncomputable def p_law_next : List D → List Acc → Option (D × List Acc) := fnP 2 3 m_law_next
noncomputable def lWorth : List (Str × Int) := [("r", 1), ("w", 2), ("x", 1), ("S", 2), ("T", 2), ("s", 3), ("t", 3)]
noncomputable def e_law_worth_0 (a : Addr) : Mx (List D) := bd (bd (rd 1) fun d => bd (rd 0) fun k => bd (rt (.int 0)) fun z => lf (getD' a lWorth d k z)) fun d => rt [d]
noncomputable def x_law_worth_0 (a : Addr) : Mx D := bd (bd (bd (compM 1 [1] (bd (rd 0) fun d => lf (itM false d)) (fun d σ => some (wr 0 d σ)) (e_law_worth_0 a)) fun d => bd (rt []) fun ds => rt (d :: ds)) fun ds => sumLM ds) fun a => bd (rt (.int 3)) fun b => lf (modD a b)
noncomputable def s_law_worth_1 (a : Addr) : Mx Fl := sq (bd (x_law_worth_0 a) fun d => rt (.ret d)) (rt .next)
noncomputable def worthD (l : List D) : Option (List Int) := match l with
  | [] => some []
  | .str x :: l => (worthD l).map (((lWorth.lookup x).getD 0) :: ·)
  | _ => none
noncomputable def r_law_worth : MS → Option Fl := fun σ => match σ.v with
  | [some d, none] => match seqD d with
    | some l => match worthD l with
      | some ns => if l.length ≤ 1000000 then some (.ret (.int (ns.sum.fmod 3))) else none
      | none => none
    | none => none
  | _ => none
noncomputable def p_law_worth : List D → List Acc → Option (D × List Acc) := fnP 1 2 (fun σ => (r_law_worth σ).map fun fl => (fl, { σ with v := σ.v.set 1 none }))
noncomputable def x_law_kind_0 : Mx D := bd (bd (bd (rd 0) fun a => bd (rt (.int 1)) fun b => fun σ => (itemD σ.b a b).map fun d => (d, σ)) fun a => bd (rt (.str "")) fun b => lf (eqD a b)) fun x => if x then (rt (.int 0)) else (bd (rt (.int 1)) fun a => bd (bd (bd (bd (rd 0) fun a => bd (rt (.int 0)) fun b => fun σ => (itemD σ.b a b).map fun d => (d, σ)) fun d => bd (rt []) fun ds => rt (d :: ds)) lenM) fun b => lf (addD a b))
noncomputable def s_law_kind_0 : Mx Fl := bd x_law_kind_0 fun d => rt (.ret d)
noncomputable def m_law_kind : Mx Fl := sq s_law_kind_0 (rt .next)
noncomputable def p_law_kind : List D → List Acc → Option (D × List Acc) := fnP 1 1 m_law_kind
noncomputable def x_law_forth_0 : Mx D := bd (bd (bd (bd (rt (.int 1)) fun d => bd (rt []) fun ds => rt (d :: ds)) newM) fun d => bd (bd (bd (bd (rt (.int 2)) fun d => bd (rt []) fun ds => rt (d :: ds)) newM) fun d => bd (bd (rt (.int 0)) fun d => bd (rt []) fun ds => rt (d :: ds)) fun ds => rt (d :: ds)) fun ds => rt (d :: ds)) fun l => lf (mkT l)
noncomputable def s_law_forth_0 : Mx Fl := bd (x_law_forth_0) fun d => bd (lf (unD [] d)) fun l => if l.length = 3 then fun σ => some (.next, wrs [4, 3, 2] l.reverse σ) else fun _ => none
noncomputable def x_law_forth_1 : Mx D := bd (rd 3) fun d => if isAcc d then bd (bd (bd (bd (rd 5) fun a => bd (rt (.str "-sStT")) fun b => lf (inD a b)) fun x => if x then (rt (.str " ")) else (rt (.str ""))) fun d => bd (bd (bd (bd (rd 5) fun a => bd (rt (.str "-")) fun b => lf (eqD a b)) fun x => if x then (rt (.str "")) else (rd 5)) fun d => bd (rt []) fun ds => rt (d :: ds)) fun ds => rt (d :: ds)) fun ds => callM p_push (d :: ds) else fun _ => none
noncomputable def b_law_forth_0 : Mx Fl := sq (bd x_law_forth_1 fun d => match d with | .none => rt .next | _ => fun _ => none) (rt .next)
noncomputable def o_law_forth_0 : Mx Fl := rt .next
noncomputable def i_law_forth_0 : Mx (List D) := bd (bd (rd 1) fun a => bd (rt none) fun l => bd (rt none) fun u => bd (bd (bd (rt (.int 1)) fun d => lf (negD d)) fun d => lf (asI d)) fun t => fun σ => (sliceD σ.b l u t a).map fun d => (d, σ)) fun d => lf (itM false d)
noncomputable def s_law_forth_1 : Mx Fl := bd i_law_forth_0 fun ds => loopM (fun d σ => some (wr 5 d σ)) b_law_forth_0 o_law_forth_0 ds
noncomputable def x_law_forth_2 : Mx D := bd (rd 3) fun d => if isAcc d then callM p_pop [d] else fun _ => none
noncomputable def x_law_forth_3 : Mx D := bd (rd 2) fun d => if isAcc d then bd (bd (bd (rd 6) fun a => bd (rt (.int 0)) fun b => fun σ => (itemD σ.b a b).map fun d => (d, σ)) fun d => bd (bd (bd (rd 6) fun a => bd (rt (.int 1)) fun b => fun σ => (itemD σ.b a b).map fun d => (d, σ)) fun d => bd (rt []) fun ds => rt (d :: ds)) fun ds => rt (d :: ds)) fun ds => callM p_push (d :: ds) else fun _ => none
noncomputable def x_law_forth_4 : Mx D := bd (bd (rd 0) fun a => bd (bd (bd (rd 6) fun d => bd (rt []) fun ds => rt (d :: ds)) fun ds => callM p_law_kind ds) fun b => fun σ => (itemD σ.b a b).map fun d => (d, σ)) fun a => bd (rd 4) fun b => fun σ => (itemD σ.b a b).map fun d => (d, σ)
noncomputable def b_law_forth_1 : Mx Fl := sq (bd x_law_forth_2 fun d => fun σ => some (.next, wr 6 d σ)) (sq (bd x_law_forth_3 fun d => match d with | .none => rt .next | _ => fun _ => none) (sq (bd x_law_forth_4 fun d => fun σ => some (.next, wr 4 d σ)) (rt .next)))
noncomputable def o_law_forth_1 : Mx Fl := rt .next
noncomputable def i_law_forth_1 : Mx (List D) := bd (rd 1) fun d => lf (itM false d)
noncomputable def s_law_forth_2 : Mx Fl := bd i_law_forth_1 fun ds => loopM (fun d σ => some (wr 5 d σ)) b_law_forth_1 o_law_forth_1 ds
noncomputable def x_law_forth_5 : Mx D := bd (bd (rd 2) fun d => bd (bd (rd 3) fun d => bd (bd (rd 4) fun d => bd (rt []) fun ds => rt (d :: ds)) fun ds => rt (d :: ds)) fun ds => rt (d :: ds)) fun l => lf (mkT l)
noncomputable def s_law_forth_3 : Mx Fl := bd x_law_forth_5 fun d => rt (.ret d)
noncomputable def m_law_forth : Mx Fl := sq s_law_forth_0 (sq s_law_forth_1 (sq s_law_forth_2 (sq s_law_forth_3 (rt .next))))
noncomputable def p_law_forth : List D → List Acc → Option (D × List Acc) := fnP 2 7 m_law_forth
noncomputable def x_law_back_0 : Mx D := bd (rd 1) fun d => if isAcc d then callM p_pop [d] else fun _ => none
noncomputable def s_law_back_0 : Mx Fl := bd x_law_back_0 fun d => fun σ => some (.next, wr 4 d σ)
noncomputable def x_law_back_1 : Mx D := bd (rd 2) fun d => if isAcc d then bd (bd (bd (rd 4) fun a => bd (rt (.int 0)) fun b => fun σ => (itemD σ.b a b).map fun d => (d, σ)) fun d => bd (bd (bd (rd 4) fun a => bd (rt (.int 1)) fun b => fun σ => (itemD σ.b a b).map fun d => (d, σ)) fun d => bd (rt []) fun ds => rt (d :: ds)) fun ds => rt (d :: ds)) fun ds => callM p_push (d :: ds) else fun _ => none
noncomputable def s_law_back_1 : Mx Fl := bd x_law_back_1 fun d => match d with | .none => rt .next | _ => fun _ => none
noncomputable def x_law_back_2 : Mx D := bd (rd 0) fun a => bd (bd (bd (rd 4) fun d => bd (rt []) fun ds => rt (d :: ds)) fun ds => callM p_law_kind ds) fun b => fun σ => (itemD σ.b a b).map fun d => (d, σ)
noncomputable def s_law_back_2 : Mx Fl := bd x_law_back_2 fun d => fun σ => some (.next, wr 5 d σ)
noncomputable def e_law_back_0 : Mx (List D) := bd (bd (bd (rd 1) fun a => bd (rd 0) fun b => fun σ => (itemD σ.b a b).map fun d => (d, σ)) fun a => bd (rd 2) fun b => lf (eqD a b)) fun b => if b then (bd (rd 0) fun d => rt [d]) else rt []
noncomputable def s_law_back_3 : Mx Fl := bd (compM 1 [5, 3] (bd (bd (rt (.int 3)) fun d => bd (rt []) fun ds => rt (d :: ds)) fun l => lf (range1 l)) (fun d σ => some (wr 0 d σ)) (e_law_back_0)) fun d => fun σ => some (.next, wr 6 d σ)
noncomputable def e_law_back_1 : Mx (List D) := bd (bd (bd (rd 0) fun d => bd (rt []) fun ds => rt (d :: ds)) fun l => lf (mkL l)) fun d => rt [d]
noncomputable def x_law_back_3 : Mx D := bd (bd (rd 6) fun d => bd (bd (bd (rt []) fun l => fun σ => if l.length ≤ 1000000 then some (.box σ.b.length, { σ with b := σ.b ++ [l] }) else none) fun d => bd (bd (compM 1 [] (bd (rd 6) fun d => lf (itM false d)) (fun d σ => some (wr 0 d σ)) (e_law_back_1)) fun d => bd (rt []) fun ds => rt (d :: ds)) fun ds => rt (d :: ds)) fun ds => rt (d :: ds)) fun l => lf (mkT l)
noncomputable def s_law_back_4 : Mx Fl := bd (x_law_back_3) fun d => bd (lf (unD [] d)) fun l => if l.length = 3 then fun σ => some (.next, wrs [9, 8, 7] l.reverse σ) else fun _ => none
noncomputable def t_law_back_0 : Mx Bool := bd (bd (bd (rd 6) fun d => bd (rt []) fun ds => rt (d :: ds)) lenM) fun a => bd (rt (.int 2)) fun b => lf (ltD a b)
noncomputable def x_law_back_4 : Mx D := bd (bd (rd 7) fun d => bd (bd (rd 8) fun d => bd (rt []) fun ds => rt (d :: ds)) fun ds => rt (d :: ds)) fun l => lf (mkT l)
noncomputable def s_law_back_5 : Mx Fl := bd t_law_back_0 fun x => if x then (sq (bd x_law_back_4 fun d => rt (.ret d)) (rt .next)) else (rt .next)
noncomputable def x_law_back_5 : Mx D := bd (rd 1) fun d => if isAcc d then callM p_pop [d] else fun _ => none
noncomputable def t_law_back_1 : Mx Bool := bd (rd 4) fun a => bd (bd (bd (rt (.str "")) fun d => bd (bd (rt (.str "")) fun d => bd (rt []) fun ds => rt (d :: ds)) fun ds => rt (d :: ds)) fun l => lf (mkT l)) fun b => lf (eqD a b)
noncomputable def e_law_back_2 : Mx (List D) := bd (bd (rt (.int 0)) fun a => bd (rd 1) fun b => lf (inD a b)) fun b => if b then (bd (rd 0) fun d => rt [d]) else rt []
noncomputable def x_law_back_6 : Mx D := bd (rd 2) fun d => if isAcc d then bd (bd (bd (rd 4) fun a => bd (rt (.int 0)) fun b => fun σ => (itemD σ.b a b).map fun d => (d, σ)) fun d => bd (bd (bd (rd 4) fun a => bd (rt (.int 1)) fun b => fun σ => (itemD σ.b a b).map fun d => (d, σ)) fun d => bd (rt []) fun ds => rt (d :: ds)) fun ds => rt (d :: ds)) fun ds => callM p_push (d :: ds) else fun _ => none
noncomputable def x_law_back_7 : Mx D := bd (rd 8) fun d => if isBox d then bd (bd (bd (rd 1) fun d => if isAcc d then callM p_part_count [d] else fun _ => none) fun d => bd (rt []) fun ds => rt (d :: ds)) fun ds => appM (d :: ds) else fun _ => none
noncomputable def x_law_back_8 : Mx D := bd (rd 0) fun a => bd (bd (bd (rd 4) fun d => bd (rt []) fun ds => rt (d :: ds)) fun ds => callM p_law_kind ds) fun b => fun σ => (itemD σ.b a b).map fun d => (d, σ)
noncomputable def e_law_back_3 : Mx (List D) := bd (bd (bd (rd 1) fun a => bd (rd 0) fun b => fun σ => (itemD σ.b a b).map fun d => (d, σ)) fun a => bd (rd 2) fun b => lf (inD a b)) fun b => if b then (bd (rd 0) fun d => rt [d]) else rt []
noncomputable def e_law_back_4 : Mx (List D) := bd (compM 1 [1, 0] (bd (bd (rt (.int 3)) fun d => bd (rt []) fun ds => rt (d :: ds)) fun l => lf (range1 l)) (fun d σ => some (wr 0 d σ)) (e_law_back_3)) fun d => rt [d]
noncomputable def e_law_back_5 : Mx (List D) := bd (bd (rd 1) fun a => bd (bd (rt []) fun l => lf (mkL l)) fun b => lf (neD a b)) fun b => if b then (bd (rd 0) fun d => rt [d]) else rt []
noncomputable def t_law_back_2 : Mx Bool := bd (bd (bd (rd 7) fun d => bd (rt []) fun ds => rt (d :: ds)) lenM) fun a => bd (rt (.int 1)) fun b => lf (eqD a b)
noncomputable def x_law_back_9 : Mx D := bd (rd 2) fun d => if isAcc d then callM p_pop [d] else fun _ => none
noncomputable def x_law_back_10 : Mx D := bd (rd 1) fun d => if isAcc d then bd (bd (bd (rd 4) fun a => bd (rt (.int 0)) fun b => fun σ => (itemD σ.b a b).map fun d => (d, σ)) fun d => bd (bd (bd (rd 4) fun a => bd (rt (.int 1)) fun b => fun σ => (itemD σ.b a b).map fun d => (d, σ)) fun d => bd (rt []) fun ds => rt (d :: ds)) fun ds => rt (d :: ds)) fun ds => callM p_push (d :: ds) else fun _ => none
noncomputable def x_law_back_11 : Mx D := rd 11
noncomputable def b_law_back_0 : Mx Fl := sq (bd x_law_back_5 fun d => fun σ => some (.next, wr 4 d σ)) (sq (bd t_law_back_1 fun x => if x then (sq (bd (compM 2 [] (bd (bd (rd 6) fun d => bd (bd (rd 9) fun d => bd (rt []) fun ds => rt (d :: ds)) fun ds => rt (d :: ds)) fun l => lf (zip2 l)) (fun d σ => match unD [] d with | some l => if l.length = 2 then some (wrs [0, 1] l σ) else none | none => none) (e_law_back_2)) fun d => fun σ => some (.next, wr 7 d σ)) (sq (rt .brk) (rt .next))) else (rt .next)) (sq (bd x_law_back_6 fun d => match d with | .none => rt .next | _ => fun _ => none) (sq (bd x_law_back_7 fun d => match d with | .none => rt .next | _ => fun _ => none) (sq (bd x_law_back_8 fun d => fun σ => some (.next, wr 5 d σ)) (sq (bd (compM 1 [5] (bd (rd 9) fun d => lf (itM false d)) (fun d σ => some (wr 0 d σ)) (e_law_back_4)) fun d => fun σ => some (.next, wr 11 d σ)) (sq (bd (compM 2 [] (bd (bd (rd 6) fun d => bd (bd (rd 11) fun d => bd (rt []) fun ds => rt (d :: ds)) fun ds => rt (d :: ds)) fun l => lf (zip2 l)) (fun d σ => match unD [] d with | some l => if l.length = 2 then some (wrs [0, 1] l σ) else none | none => none) (e_law_back_5)) fun d => fun σ => some (.next, wr 7 d σ)) (sq (bd t_law_back_2 fun x => if x then (sq (bd x_law_back_9 fun d => fun σ => some (.next, wr 4 d σ)) (sq (bd x_law_back_10 fun d => match d with | .none => rt .next | _ => fun _ => none) (sq (rt .brk) (rt .next)))) else (rt .next)) (sq (bd x_law_back_11 fun d => fun σ => some (.next, wr 9 d σ)) (rt .next)))))))))
noncomputable def o_law_back_0 : Mx Fl := rt .next
noncomputable def i_law_back_0 : Mx (List D) := bd (bd (bd (bd (rd 1) fun d => if isAcc d then callM p_part_count [d] else fun _ => none) fun a => bd (rt (.int 1)) fun b => lf (addD a b)) fun d => bd (rt []) fun ds => rt (d :: ds)) fun l => lf (range1 l)
noncomputable def s_law_back_6 : Mx Fl := bd i_law_back_0 fun ds => loopM (fun d σ => some (wr 10 d σ)) b_law_back_0 o_law_back_0 ds
noncomputable def e_law_back_6 : Mx (List D) := bd (bd (rd 0) fun a => bd (bd (rt []) fun l => lf (mkL l)) fun b => lf (neD a b)) fun b => if b then (bd (bd (rd 0) fun a => bd (rt (.int 0)) fun b => fun σ => (itemD σ.b a b).map fun d => (d, σ)) fun d => rt [d]) else rt []
noncomputable def x_law_back_12 : Mx D := bd (compM 1 [] (bd (rd 9) fun d => lf (itM false d)) (fun d σ => some (wr 0 d σ)) (e_law_back_6)) fun a => bd (rt none) fun l => bd (bd (rt (.int 2)) fun d => lf (asI d)) fun u => bd (rt none) fun t => fun σ => (sliceD σ.b l u t a).map fun d => (d, σ)
noncomputable def s_law_back_7 : Mx Fl := bd (x_law_back_12) fun d => bd (lf (unD [] d)) fun l => if l.length = 2 then fun σ => some (.next, wrs [12, 13] l σ) else fun _ => none
noncomputable def x_law_back_13 : Mx D := bd (rd 2) fun d => if isAcc d then callM p_pop [d] else fun _ => none
noncomputable def x_law_back_14 : Mx D := bd (rd 1) fun d => if isAcc d then bd (bd (bd (rd 4) fun a => bd (rt (.int 0)) fun b => fun σ => (itemD σ.b a b).map fun d => (d, σ)) fun d => bd (bd (bd (rd 4) fun a => bd (rt (.int 1)) fun b => fun σ => (itemD σ.b a b).map fun d => (d, σ)) fun d => bd (rt []) fun ds => rt (d :: ds)) fun ds => rt (d :: ds)) fun ds => callM p_push (d :: ds) else fun _ => none
noncomputable def x_law_back_15 : Mx D := bd (rd 0) fun a => bd (bd (bd (rd 4) fun d => bd (rt []) fun ds => rt (d :: ds)) fun ds => callM p_law_kind ds) fun b => fun σ => (itemD σ.b a b).map fun d => (d, σ)
noncomputable def x_law_back_16 : Mx D := bd (bd (bd (rd 5) fun a => bd (rd 12) fun b => fun σ => (itemD σ.b a b).map fun d => (d, σ)) fun d => bd (bd (bd (rd 5) fun a => bd (rd 13) fun b => fun σ => (itemD σ.b a b).map fun d => (d, σ)) fun d => bd (rt []) fun ds => rt (d :: ds)) fun ds => rt (d :: ds)) fun l => lf (mkT l)
noncomputable def b_law_back_1 : Mx Fl := sq (bd x_law_back_13 fun d => fun σ => some (.next, wr 4 d σ)) (sq (bd x_law_back_14 fun d => match d with | .none => rt .next | _ => fun _ => none) (sq (bd x_law_back_15 fun d => fun σ => some (.next, wr 5 d σ)) (sq (bd (x_law_back_16) fun d => bd (lf (unD [] d)) fun l => if l.length = 2 then fun σ => some (.next, wrs [13, 12] l.reverse σ) else fun _ => none) (rt .next))))
noncomputable def t_law_back_3 : Mx Bool := bd (bd (rd 12) fun a => bd (rd 13) fun b => lf (neD a b)) fun b => if b then (bd (bd (rd 2) fun d => if isAcc d then callM p_part_count [d] else fun _ => none) fun a => bd (rt (.int 0)) fun b => lf (gtD a b)) else rt false
noncomputable def s_law_back_8 : Mx Fl := whileM t_law_back_3 b_law_back_1 100
noncomputable def x_law_back_17 : Mx D := bd (rd 1) fun d => if isAcc d then callM p_pop [d] else fun _ => none
noncomputable def s_law_back_9 : Mx Fl := bd x_law_back_17 fun d => fun σ => some (.next, wr 4 d σ)
noncomputable def x_law_back_18 : Mx D := bd (rd 2) fun d => if isAcc d then bd (bd (bd (rd 4) fun a => bd (rt (.int 0)) fun b => fun σ => (itemD σ.b a b).map fun d => (d, σ)) fun d => bd (bd (bd (rd 4) fun a => bd (rt (.int 1)) fun b => fun σ => (itemD σ.b a b).map fun d => (d, σ)) fun d => bd (rt []) fun ds => rt (d :: ds)) fun ds => rt (d :: ds)) fun ds => callM p_push (d :: ds) else fun _ => none
noncomputable def s_law_back_10 : Mx Fl := bd x_law_back_18 fun d => match d with | .none => rt .next | _ => fun _ => none
noncomputable def x_law_back_19 : Mx D := bd (bd (rd 7) fun d => bd (bd (rd 8) fun d => bd (rt []) fun ds => rt (d :: ds)) fun ds => rt (d :: ds)) fun l => lf (mkT l)
noncomputable def s_law_back_11 : Mx Fl := bd x_law_back_19 fun d => rt (.ret d)
noncomputable def m_law_back : Mx Fl := sq s_law_back_0 (sq s_law_back_1 (sq s_law_back_2 (sq s_law_back_3 (sq s_law_back_4 (sq s_law_back_5 (sq s_law_back_6 (sq s_law_back_7 (sq s_law_back_8 (sq s_law_back_9 (sq s_law_back_10 (sq s_law_back_11 (rt .next))))))))))))
noncomputable def p_law_back : List D → List Acc → Option (D × List Acc) := fnP 4 14 m_law_back
noncomputable def x_law_0 : Mx D := bd (bd (rd 0) fun d => bd (rt []) fun ds => rt (d :: ds)) fun ds => callM p_law_modes ds
noncomputable def s_law_0 : Mx Fl := bd x_law_0 fun d => fun σ => some (.next, wr 1 d σ)
noncomputable def x_law_1 : Mx D := bd (bd (bd (rt []) fun l => fun σ => if l.length ≤ 1000000 then some (.box σ.b.length, { σ with b := σ.b ++ [l] }) else none) fun d => bd (bd (bd (bd (rt (.int 0)) fun d => bd (rt []) fun ds => rt (d :: ds)) fun l => fun σ => if l.length ≤ 1000000 then some (.box σ.b.length, { σ with b := σ.b ++ [l] }) else none) fun d => bd (rt []) fun ds => rt (d :: ds)) fun ds => rt (d :: ds)) fun l => lf (mkT l)
noncomputable def s_law_1 : Mx Fl := bd (x_law_1) fun d => bd (lf (unD [] d)) fun l => if l.length = 2 then fun σ => some (.next, wrs [3, 2] l.reverse σ) else fun _ => none
noncomputable def e_law_0 : Mx (List D) := bd (bd (bd (rd 0) fun d => bd (rt []) fun ds => rt (d :: ds)) fun ds => callM p_law_row ds) fun d => rt [d]
noncomputable def x_law_2 : Mx D := bd (bd (rd 4) fun a => bd (rt (.str "-")) fun b => lf (eqD a b)) fun x => if x then (rt (.int 0)) else (bd (bd (rd 4) fun a => bd (rt (.str "sStT")) fun b => lf (inD a b)) fun x => if x then (rt (.int 2)) else (rt (.int 1)))
noncomputable def x_law_3 : Mx D := bd (rd 2) fun d => if isBox d then bd (bd (bd (bd (bd (bd (bd (rt (.str " ")) fun d => bd (bd (rt (.str "")) fun d => bd (rt []) fun ds => rt (d :: ds)) fun ds => rt (d :: ds)) fun l => lf (mkT l)) fun d => bd (bd (bd (bd (rt (.str "")) fun d => bd (bd (rd 4) fun d => bd (rt []) fun ds => rt (d :: ds)) fun ds => rt (d :: ds)) fun l => lf (mkT l)) fun d => bd (bd (bd (bd (rt (.str " ")) fun d => bd (bd (rd 4) fun d => bd (rt []) fun ds => rt (d :: ds)) fun ds => rt (d :: ds)) fun l => lf (mkT l)) fun d => bd (rt []) fun ds => rt (d :: ds)) fun ds => rt (d :: ds)) fun ds => rt (d :: ds)) fun l => lf (mkL l)) fun a => bd (rd 5) fun b => fun σ => (itemD σ.b a b).map fun d => (d, σ)) fun d => bd (rt []) fun ds => rt (d :: ds)) fun ds => appM (d :: ds) else fun _ => none
noncomputable def x_law_4 : Mx D := bd (rd 3) fun d => if isBox d then bd (bd (bd (bd (bd (rd 1) fun a => bd (rd 5) fun b => fun σ => (itemD σ.b a b).map fun d => (d, σ)) fun d => bd (bd (bd (rd 3) fun a => bd (bd (rt (.int 1)) fun d => lf (negD d)) fun b => fun σ => (itemD σ.b a b).map fun d => (d, σ)) fun d => bd (rt []) fun ds => rt (d :: ds)) fun ds => rt (d :: ds)) fun ds => callM p_law_next ds) fun d => bd (rt []) fun ds => rt (d :: ds)) fun ds => appM (d :: ds) else fun _ => none
noncomputable def b_law_0 : Mx Fl := sq (bd x_law_2 fun d => fun σ => some (.next, wr 5 d σ)) (sq (bd x_law_3 fun d => match d with | .none => rt .next | _ => fun _ => none) (sq (bd x_law_4 fun d => match d with | .none => rt .next | _ => fun _ => none) (rt .next)))
noncomputable def o_law_0 : Mx Fl := rt .next
noncomputable def i_law_0 : Mx (List D) := bd (bd (rt (.str "")) fun d => if isStr d then bd (bd (compM 1 [] (bd (bd (rd 1) fun a => bd (bd (rt (.int 3)) fun d => lf (asI d)) fun l => bd (rt none) fun u => bd (rt none) fun t => fun σ => (sliceD σ.b l u t a).map fun d => (d, σ)) fun d => lf (itM false d)) (fun d σ => some (wr 0 d σ)) (e_law_0)) fun d => bd (rt []) fun ds => rt (d :: ds)) fun ds => joinM (d :: ds) else fun _ => none) fun d => lf (itM false d)
noncomputable def s_law_2 : Mx Fl := bd i_law_0 fun ds => loopM (fun d σ => some (wr 4 d σ)) b_law_0 o_law_0 ds
noncomputable def e_law_1 : Mx (List D) := bd (bd (bd (rd 0) fun d => bd (rt []) fun ds => rt (d :: ds)) fun ds => callM p_filemode ds) fun d => rt [d]
noncomputable def s_law_3 : Mx Fl := bd (compM 1 [] (bd (rd 1) fun d => lf (itM false d)) (fun d σ => some (wr 0 d σ)) (e_law_1)) fun d => fun σ => some (.next, wr 6 d σ)
noncomputable def e_law_2 : Mx (List D) := bd (bd (bd (bd (rd 1) fun a => bd (bd (rd 0) fun d => lf (asI d)) fun l => bd (bd (bd (rd 0) fun a => bd (rt (.int 3)) fun b => lf (addD a b)) fun d => lf (asI d)) fun u => bd (rt none) fun t => fun σ => (sliceD σ.b l u t a).map fun d => (d, σ)) fun d => bd (rt []) fun ds => rt (d :: ds)) fun ds => callM p_law_worth ds) fun d => rt [d]
noncomputable def e_law_3 : Mx (List D) := bd (compM 1 [0] (bd (bd (bd (rt (.int 1)) fun d => bd (bd (rt (.int 4)) fun d => bd (bd (rt (.int 7)) fun d => bd (rt []) fun ds => rt (d :: ds)) fun ds => rt (d :: ds)) fun ds => rt (d :: ds)) fun l => lf (mkT l)) fun d => lf (itM false d)) (fun d σ => some (wr 0 d σ)) (e_law_2)) fun d => rt [d]
noncomputable def s_law_4 : Mx Fl := bd (compM 1 [] (bd (bd (rd 6) fun a => bd (rt none) fun l => bd (bd (rt (.int 3)) fun d => lf (asI d)) fun u => bd (rt none) fun t => fun σ => (sliceD σ.b l u t a).map fun d => (d, σ)) fun d => lf (itM false d)) (fun d σ => some (wr 0 d σ)) (e_law_3)) fun d => fun σ => some (.next, wr 7 d σ)
noncomputable def x_law_5 : Mx D := bd (bd (rd 7) fun d => bd (bd (bd (rt (.str "")) fun d => if isStr d then bd (bd (bd (rd 6) fun a => bd (bd (rt (.int 3)) fun d => lf (asI d)) fun l => bd (rt none) fun u => bd (rt none) fun t => fun σ => (sliceD σ.b l u t a).map fun d => (d, σ)) fun d => bd (rt []) fun ds => rt (d :: ds)) fun ds => joinM (d :: ds) else fun _ => none) fun d => bd (rt []) fun ds => rt (d :: ds)) fun ds => rt (d :: ds)) fun ds => callM p_law_forth ds
noncomputable def s_law_5 : Mx Fl := bd (x_law_5) fun d => bd (lf (unD [] d)) fun l => if l.length = 3 then fun σ => some (.next, wrs [8, 9, 10] l σ) else fun _ => none
noncomputable def x_law_6 : Mx D := bd (bd (bd (bd (rd 10) fun d => bd (rt []) fun ds => rt (d :: ds)) fun l => lf (mkL l)) fun d => bd (bd (bd (rt []) fun l => fun σ => if l.length ≤ 1000000 then some (.box σ.b.length, { σ with b := σ.b ++ [l] }) else none) fun d => bd (rt []) fun ds => rt (d :: ds)) fun ds => rt (d :: ds)) fun l => lf (mkT l)
noncomputable def s_law_6 : Mx Fl := bd (x_law_6) fun d => bd (lf (unD [] d)) fun l => if l.length = 2 then fun σ => some (.next, wrs [11, 12] l σ) else fun _ => none
noncomputable def t_law_0 : Mx Bool := bd (bd (rd 11) fun a => bd (bd (bd (bd (rd 3) fun a => bd (rd 13) fun b => fun σ => (itemD σ.b a b).map fun d => (d, σ)) fun d => bd (rt []) fun ds => rt (d :: ds)) fun l => lf (mkL l)) fun b => lf (neD a b)) fun b => if b then rt true else (bd (bd (rd 8) fun d => if isAcc d then callM p_part_count [d] else fun _ => none) fun a => bd (rd 13) fun b => lf (neD a b))
noncomputable def x_law_7 : Mx D := rt (.bool false)
noncomputable def e_law_4 : Mx (List D) := bd (bd (rd 0) fun a => bd (rd 1) fun b => lf (addD a b)) fun d => rt [d]
noncomputable def t_law_1 : Mx Bool := bd (bd (bd (rd 8) fun d => bd (rt []) fun ds => rt (d :: ds)) fun ds => strA p_str ds) fun a => bd (bd (rt (.str "")) fun d => if isStr d then bd (bd (compM 2 [] (bd (bd (rd 2) fun a => bd (rt none) fun l => bd (bd (rd 13) fun d => lf (asI d)) fun u => bd (rt none) fun t => fun σ => (sliceD σ.b l u t a).map fun d => (d, σ)) fun d => lf (itM true d)) (fun d σ => match unD [] d with | some l => if l.length = 2 then some (wrs [0, 1] l σ) else none | none => none) (e_law_4)) fun d => bd (rt []) fun ds => rt (d :: ds)) fun ds => joinM (d :: ds) else fun _ => none) fun b => lf (neD a b)
noncomputable def x_law_8 : Mx D := rt (.bool false)
noncomputable def t_law_2 : Mx Bool := bd (rd 13) fun a => bd (rt (.int 0)) fun b => lf (gtD a b)
noncomputable def x_law_9 : Mx D := bd (bd (rd 7) fun d => bd (bd (rd 8) fun d => bd (bd (rd 9) fun d => bd (bd (bd (rd 11) fun a => bd (rt (.int 0)) fun b => fun σ => (itemD σ.b a b).map fun d => (d, σ)) fun d => bd (rt []) fun ds => rt (d :: ds)) fun ds => rt (d :: ds)) fun ds => rt (d :: ds)) fun ds => rt (d :: ds)) fun ds => callM p_law_back ds
noncomputable def x_law_10 : Mx D := bd (rd 12) fun d => if isBox d then bd (bd (rd 14) fun d => bd (rt []) fun ds => rt (d :: ds)) fun ds => extM (d :: ds) else fun _ => none
noncomputable def b_law_1 : Mx Fl := sq (bd t_law_0 fun x => if x then (sq (bd x_law_7 fun d => rt (.ret d)) (rt .next)) else (rt .next)) (sq (bd t_law_1 fun x => if x then (sq (bd x_law_8 fun d => rt (.ret d)) (rt .next)) else (rt .next)) (sq (bd t_law_2 fun x => if x then (sq (bd (x_law_9) fun d => bd (lf (unD [] d)) fun l => if l.length = 2 then fun σ => some (.next, wrs [11, 14] l σ) else fun _ => none) (sq (bd x_law_10 fun d => match d with | .none => rt .next | _ => fun _ => none) (rt .next))) else (rt .next)) (rt .next)))
noncomputable def o_law_1 : Mx Fl := rt .next
noncomputable def i_law_1 : Mx (List D) := bd (bd (bd (bd (rd 2) fun d => bd (rt []) fun ds => rt (d :: ds)) lenM) fun d => bd (bd (bd (rt (.int 1)) fun d => lf (negD d)) fun d => bd (bd (bd (rt (.int 1)) fun d => lf (negD d)) fun d => bd (rt []) fun ds => rt (d :: ds)) fun ds => rt (d :: ds)) fun ds => rt (d :: ds)) fun l => lf (range3 l)
noncomputable def s_law_7 : Mx Fl := bd i_law_1 fun ds => loopM (fun d σ => some (wr 13 d σ)) b_law_1 o_law_1 ds
noncomputable def e_law_5 : Mx (List D) := bd (bd (bd (bd (rd 0) fun a => bd (rd 1) fun b => lf (addD a b)) fun d => bd (rt []) fun ds => rt (d :: ds)) lenM) fun d => rt [d]
noncomputable def t_law_3 : Mx Bool := bd (bd (bd (bd (rd 8) fun d => bd (rt []) fun ds => rt (d :: ds)) (lenA p_len)) fun a => bd (rt (.int 1)) fun b => lf (neD a b)) fun b => if b then rt true else (bd (bd (bd (rd 9) fun d => bd (rt []) fun ds => rt (d :: ds)) (lenA p_len)) fun a => bd (bd (rt (.int 2)) fun a => bd (bd (bd (compFM 2 2 [] true (fun d σ => match unD [] d with | some l => if l.length = 2 then some (wrs [0, 1] l σ) else none | none => none) (e_law_5)) fun d => bd (rt []) fun ds => rt (d :: ds)) sumLM) fun b => lf (addD a b)) fun b => lf (neD a b))
noncomputable def x_law_11 : Mx D := rt (.bool false)
noncomputable def s_law_8 : Mx Fl := bd t_law_3 fun x => if x then (sq (bd x_law_11 fun d => rt (.ret d)) (rt .next)) else (rt .next)
noncomputable def x_law_12 : Mx D := bd (bd (rd 1) fun a => bd (rt (.int 3)) fun b => fun σ => (itemD σ.b a b).map fun d => (d, σ)) fun a => bd (rt (.int 10)) fun b => lf (modD a b)
noncomputable def s_law_9 : Mx Fl := bd x_law_12 fun d => fun σ => some (.next, wr 15 d σ)
noncomputable def x_law_13 : Mx D := bd (rd 9) fun d => if isAcc d then bd (bd (rd 15) fun d => bd (rt []) fun ds => rt (d :: ds)) fun ds => callM p_pop_from (d :: ds) else fun _ => none
noncomputable def s_law_10 : Mx Fl := bd x_law_13 fun d => fun σ => some (.next, wr 16 d σ)
noncomputable def t_law_4 : Mx Bool := bd (bd (bd (rd 9) fun d => if isAcc d then callM p_part_count [d] else fun _ => none) fun a => bd (rd 15) fun b => lf (neD a b)) fun b => if b then rt true else (bd (bd (bd (bd (rd 9) fun d => if isAcc d then callM p_pop_from [d] else fun _ => none) fun a => bd (rd 16) fun b => lf (addD a b)) fun a => bd (bd (rd 2) fun a => bd (rt none) fun l => bd (rt none) fun u => bd (bd (bd (rt (.int 1)) fun d => lf (negD d)) fun d => lf (asI d)) fun t => fun σ => (sliceD σ.b l u t a).map fun d => (d, σ)) fun b => lf (neD a b)) fun b => if b then rt true else (bd (bd (bd (rd 9) fun d => bd (rt []) fun ds => rt (d :: ds)) (lenA p_len)) fun a => bd (rt (.int 2)) fun b => lf (neD a b)))
noncomputable def x_law_14 : Mx D := rt (.bool false)
noncomputable def s_law_11 : Mx Fl := bd t_law_4 fun x => if x then (sq (bd x_law_14 fun d => rt (.ret d)) (rt .next)) else (rt .next)
noncomputable def e_law_6 : Mx (List D) := bd (bd (bd (rd 1) fun d => if isLst d then bd (bd (rd 0) fun d => bd (rt []) fun ds => rt (d :: ds)) fun ds => lcountM (d :: ds) else fun _ => none) fun a => bd (rt (.int 2)) fun b => lf (gtD a b)) fun b => if b then (bd (rd 0) fun d => rt [d]) else rt []
noncomputable def x_law_15 : Mx D := bd (compFM 12 1 [12] false (fun d σ => some (wr 0 d σ)) (e_law_6)) fun a => bd (bd (rt []) fun l => lf (mkL l)) fun b => lf ((eqD a b).map .bool)
noncomputable def s_law_12 : Mx Fl := bd x_law_15 fun d => rt (.ret d)
noncomputable def m_law : Mx Fl := sq s_law_0 (sq s_law_1 (sq s_law_2 (sq s_law_3 (sq s_law_4 (sq s_law_5 (sq s_law_6 (sq s_law_7 (sq s_law_8 (sq s_law_9 (sq s_law_10 (sq s_law_11 (sq s_law_12 (rt .next)))))))))))))
noncomputable def p_law : List D → List Acc → Option (D × List Acc) := fnP 1 17 m_law
end Mine
end
section
open PySem PySem.W PyProof.Rows PySem.W.X
set_option maxHeartbeats 1000000
namespace Mine
structure Ok1 (c : Cx) (w : World) : Prop where
  KX : (kheap w.params).In c.h0
  tabs : c.tabs = [63, 70]
  C : c.C = 101
  prog : c.prog.main = PySem.Challenge.pw_ph0075_01.main
  mb : ∀ x : Str, x ≠ "__name__" → c.mb x = bootBuiltins x
  T1 : TabOk c 67 63
  T2 : TabOk c 74 70
  bm : ∃ bm, c.mg "__builtins__" = some (.ref bm) ∧ bm ∉ c.tabs ∧ bm ≠ builtinsNs ∧ ∃ o, c.h0.get? bm = some o ∧ o.cls = .type "module" ∧ o.dict = some builtinsNs ∧ o.data = .plain
  tpu : TpUp c
section
variable {c : Cx} {w : World}
noncomputable abbrev KK (w : World) : Frag := kheap w.params
theorem Ok1.mg (O : Ok1 c w) {x : Str} {v : Value} (e : nsIn (KK w) mainGlobals x = some (some v)) : c.mg x = some v := mg_of O.KX c.gns e
theorem Ok1.mgN (O : Ok1 c w) {x : Str} (e : nsIn (KK w) mainGlobals x = some none) : c.mg x = none := mg_none_of O.KX c.gns e
theorem Ok1.nt (O : Ok1 c w) {a : Addr} (h : a ∉ ([63, 70] : List Addr)) : a ∉ c.tabs := by rw [O.tabs]; exact h
theorem Ok1.AK (O : Ok1 c w) : AccK c (KK w) where
  X := O.KX
  nt := by
    rw [O.tabs]
    intro P hP
    rcases List.mem_cons.mp hP with rfl | hP
    · rfl
    · rcases List.mem_cons.mp hP with rfl | hP
      · rfl
      · cases hP
  ga := by rw [O.C]; kernel_rfl
  isl := by rw [O.C]; kernel_rfl
  gt := by rw [O.C]; kernel_rfl
theorem Ok1.at_len (O : Ok1 c w) : findIn (KK w) (.ref c.C) "__len__" = some (some (.ref 68)) := by rw [O.C]; kernel_rfl
theorem Ok1.ty_len (_ : Ok1 c w) : typeIn (KK w) (.ref 68) = some (.type "function") := rfl
theorem Ok1.at_str (O : Ok1 c w) : findIn (KK w) (.ref c.C) "__str__" = some (some (.ref 75)) := by rw [O.C]; kernel_rfl
theorem Ok1.at_pop (O : Ok1 c w) : findIn (KK w) (.ref c.C) "pop" = some (some (.ref 61)) := by rw [O.C]; kernel_rfl
theorem Ok1.ty_pop (_ : Ok1 c w) : typeIn (KK w) (.ref 61) = some (.type "function") := rfl
theorem Ok1.at_push (O : Ok1 c w) : findIn (KK w) (.ref c.C) "push" = some (some (.ref 45)) := by rw [O.C]; kernel_rfl
theorem Ok1.ty_push (_ : Ok1 c w) : typeIn (KK w) (.ref 45) = some (.type "function") := rfl
theorem Ok1.at_part_count (O : Ok1 c w) : findIn (KK w) (.ref c.C) "part_count" = some (some (.ref 98)) := by rw [O.C]; kernel_rfl
theorem Ok1.ty_part_count (_ : Ok1 c w) : typeIn (KK w) (.ref 98) = some (.type "function") := rfl
theorem Ok1.at_pop_from (O : Ok1 c w) : findIn (KK w) (.ref c.C) "pop_from" = some (some (.ref 53)) := by rw [O.C]; kernel_rfl
theorem Ok1.ty_pop_from (_ : Ok1 c w) : typeIn (KK w) (.ref 53) = some (.type "function") := rfl
theorem Ok1.fn_str (_ : Ok1 c w) : isFn (KK w) (.ref 75) = true := by kernel_rfl
theorem Ok1.g_Accumulator (O : Ok1 c w) {F : Frm} (h : F.env.kindOf "_Accumulator" = some .globalImplicit) : GlobIs c F "_Accumulator" (.ref c.C) := by rw [O.C]; exact ⟨h, .inl (O.mg (by kernel_rfl))⟩
theorem Ok1.g_S_IFMT (O : Ok1 c w) {F : Frm} (h : F.env.kindOf "S_IFMT" = some .globalImplicit) : GlobIs c F "S_IFMT" (.ref 112) := ⟨h, .inl (O.mg (by kernel_rfl))⟩
theorem Ok1.g_filemode (O : Ok1 c w) {F : Frm} (h : F.env.kindOf "filemode" = some .globalImplicit) : GlobIs c F "filemode" (.ref 152) := ⟨h, .inl (O.mg (by kernel_rfl))⟩
theorem Ok1.g_law_modes (O : Ok1 c w) {F : Frm} (h : F.env.kindOf "_law_modes" = some .globalImplicit) : GlobIs c F "_law_modes" (.ref 157) := ⟨h, .inl (O.mg (by kernel_rfl))⟩
theorem Ok1.g_law_row (O : Ok1 c w) {F : Frm} (h : F.env.kindOf "_law_row" = some .globalImplicit) : GlobIs c F "_law_row" (.ref 164) := ⟨h, .inl (O.mg (by kernel_rfl))⟩
theorem Ok1.g_law_next (O : Ok1 c w) {F : Frm} (h : F.env.kindOf "_law_next" = some .globalImplicit) : GlobIs c F "_law_next" (.ref 171) := ⟨h, .inl (O.mg (by kernel_rfl))⟩
theorem Ok1.g_law_worth (O : Ok1 c w) {F : Frm} (h : F.env.kindOf "_law_worth" = some .globalImplicit) : GlobIs c F "_law_worth" (.ref 176) := ⟨h, .inl (O.mg (by kernel_rfl))⟩
theorem Ok1.g_law_kind (O : Ok1 c w) {F : Frm} (h : F.env.kindOf "_law_kind" = some .globalImplicit) : GlobIs c F "_law_kind" (.ref 183) := ⟨h, .inl (O.mg (by kernel_rfl))⟩
theorem Ok1.g_law_forth (O : Ok1 c w) {F : Frm} (h : F.env.kindOf "_law_forth" = some .globalImplicit) : GlobIs c F "_law_forth" (.ref 190) := ⟨h, .inl (O.mg (by kernel_rfl))⟩
theorem Ok1.g_law_back (O : Ok1 c w) {F : Frm} (h : F.env.kindOf "_law_back" = some .globalImplicit) : GlobIs c F "_law_back" (.ref 195) := ⟨h, .inl (O.mg (by kernel_rfl))⟩
theorem Ok1.b_len (O : Ok1 c w) {F : Frm} (h : F.env.kindOf "len" = some .globalImplicit) : GlobIs c F "len" (.builtin "len") := ⟨h, .inr ⟨O.mgN (by kernel_rfl), by rw [O.mb _ (by decide +kernel)]; kernel_rfl⟩⟩
theorem Ok1.b_sum (O : Ok1 c w) {F : Frm} (h : F.env.kindOf "sum" = some .globalImplicit) : GlobIs c F "sum" (.builtin "sum") := ⟨h, .inr ⟨O.mgN (by kernel_rfl), by rw [O.mb _ (by decide +kernel)]; kernel_rfl⟩⟩
theorem Ok1.b_range (O : Ok1 c w) {F : Frm} (h : F.env.kindOf "range" = some .globalImplicit) : GlobIs c F "range" (.type "range") := ⟨h, .inr ⟨O.mgN (by kernel_rfl), by rw [O.mb _ (by decide +kernel)]; kernel_rfl⟩⟩
theorem Ok1.b_zip (O : Ok1 c w) {F : Frm} (h : F.env.kindOf "zip" = some .globalImplicit) : GlobIs c F "zip" (.type "zip") := ⟨h, .inr ⟨O.mgN (by kernel_rfl), by rw [O.mb _ (by decide +kernel)]; kernel_rfl⟩⟩
theorem Ok1.b_enumerate (O : Ok1 c w) {F : Frm} (h : F.env.kindOf "enumerate" = some .globalImplicit) : GlobIs c F "enumerate" (.type "enumerate") := ⟨h, .inr ⟨O.mgN (by kernel_rfl), by rw [O.mb _ (by decide +kernel)]; kernel_rfl⟩⟩
theorem Ok1.b_str (O : Ok1 c w) {F : Frm} (h : F.env.kindOf "str" = some .globalImplicit) : GlobIs c F "str" (.type "str") := ⟨h, .inr ⟨O.mgN (by kernel_rfl), by rw [O.mb _ (by decide +kernel)]; kernel_rfl⟩⟩
theorem cloC (O : Ok1 c w) : ∀ x b, List.lookup x [(("__class__" : Str), (25 : Addr))] = some b → b < c.h0.objs.size ∧ b ∉ c.tabs ∧ ∃ v, c.h0.IsCell b v := by
  intro x b h
  have hb : b = 25 := by
    unfold List.lookup at h
    split at h
    · cases h; rfl
    · cases h
  subst hb
  exact ⟨Heap.lt_size (O.KX 25 _ rfl), O.nt (by decide), _, _, O.KX 25 _ rfl, rfl⟩
theorem capC : ∀ x y b, List.lookup x [(("__class__" : Str), (25 : Addr))] = some b → List.lookup y [(("__class__" : Str), (25 : Addr))] = some b → x = y := by
  intro x y b h1 h2
  have key : ∀ z, List.lookup z [(("__class__" : Str), (25 : Addr))] = some b → z = "__class__" := by
    intro z h
    unfold List.lookup at h
    split at h
    · rename_i q; exact beq_iff_eq.mp q
    · cases h
  rw [key x h1, key y h2]
theorem f_part_count (O : Ok1 c w) : IFn c (.ref 98) 1 p_part_count := by
  refine IFn_def (k := 0) (names := [("self" : Str)]) (ps := [("self" : Str)]) (O.nt (by decide)) (O.KX 98 _ rfl) rfl ⟨_, _, _, _, rfl, O.KX 97 _ rfl, rfl, rfl⟩ ?_ rfl rfl rfl (cloC O) capC ?_ rfl (by decide) (by decide) (by decide) fun L => ?_
  · intro b hb; cases hb; exact O.nt (by decide)
  · exact all1 fun a s => BindsTo.of_eq rfl
  · refine ISA_ret (IEA_slen O.AK (cell := 25) (code := 97) ⟨⟨_, _, _, rfl⟩, ⟨_, rfl, rfl⟩, rfl, ⟨_, _, _, _, _, rfl, by rw [O.prog]; rfl⟩, rfl, ⟨_, _, _, by rw [O.C]; rfl⟩, by rw [O.C]; rfl, by rw [O.C]; kernel_rfl, by rw [O.C]; kernel_rfl, rfl, rfl, rfl, rfl, by rw [O.prog]; rfl, by kernel_rfl, O.mgN (by kernel_rfl), by rw [O.mb _ (by decide +kernel)]; kernel_rfl, rfl, rfl⟩ rfl (by rw [O.C]; kernel_rfl))
theorem f_pop (O : Ok1 c w) : IFn c (.ref 61) 2 p_pop := by
  refine IFn_def (k := 1) (names := [("self" : Str)]) (ps := [("self" : Str)]) (O.nt (by decide)) (O.KX 61 _ rfl) rfl ⟨_, _, _, _, rfl, O.KX 60 _ rfl, rfl, rfl⟩ ?_ rfl rfl rfl (cloC O) capC ?_ rfl (by decide) (by decide) (by decide) fun L => ?_
  · intro b hb; cases hb; exact O.nt (by decide)
  · exact all1 fun a s => BindsTo.of_eq rfl
  · refine ISA_cons (I1_if (IT_cmp (IE_accCall0 O.AK O.at_part_count O.ty_part_count (f_part_count O) (Nat.le_of_ble_eq_true rfl) (IE_name 0 rfl)) IE_int op_eq) (IS_cons (I1_ret (IE_tuple (IL_cons IE_str (IL_cons IE_str IL_nil)))) IS_nil) IS_nil) ?_
    exact ISA_ret (IEA_spop O.AK (cell := 25) (code := 60) ⟨⟨_, _, _, rfl⟩, ⟨_, rfl, rfl⟩, rfl, ⟨_, _, _, _, _, rfl, by rw [O.prog]; rfl⟩, rfl, ⟨_, _, _, by rw [O.C]; rfl⟩, by rw [O.C]; rfl, by rw [O.C]; kernel_rfl, by rw [O.C]; kernel_rfl, rfl, rfl, rfl, rfl, by rw [O.prog]; rfl, by kernel_rfl, O.mgN (by kernel_rfl), by rw [O.mb _ (by decide +kernel)]; kernel_rfl, rfl, rfl⟩ rfl (by rw [O.C]; kernel_rfl) (by rw [O.C]; kernel_rfl) (by rw [O.C]; kernel_rfl) (by kernel_rfl))
theorem f_push (O : Ok1 c w) : IFn c (.ref 45) 1 p_push := by
  refine IFn_def (k := 0) (names := [("self" : Str), ("fws" : Str), ("string" : Str)]) (ps := [("self" : Str), ("fws" : Str), ("string" : Str)]) (O.nt (by decide)) (O.KX 45 _ rfl) rfl ⟨_, _, _, _, rfl, O.KX 44 _ rfl, rfl, rfl⟩ ?_ rfl rfl rfl (fun _ _ h => nomatch h) (fun _ _ _ h => nomatch h) ?_ rfl (by decide) (by decide) (by decide) fun L => ?_
  · intro b hb; cases hb; exact O.nt (by decide)
  · exact all3 fun a b d s => BindsTo.of_eq rfl
  · refine ISA_of (IS_cons (I1_expr (IE_selfAppend O.AK (by rw [O.C]; kernel_rfl) O.AK.isl (IE_name 0 rfl) (IL_cons (IE_tuple (IL_cons (IE_name 1 rfl) (IL_cons (IE_name 2 rfl) IL_nil))) IL_nil))) IS_nil)
theorem Ok1.dq (O : Ok1 c w) : mroIn (KK w) c.C (.type "collections.deque") = some false := by rw [O.C]; kernel_rfl
theorem Ok1.gi (O : Ok1 c w) : findIn (KK w) (.ref c.C) "__getitem__" = some (some (.builtin "list.__getitem__")) := by rw [O.C]; kernel_rfl
theorem Ok1.si (O : Ok1 c w) : findIn (KK w) (.ref c.C) "__setitem__" = some (some (.builtin "list.__setitem__")) := by rw [O.C]; kernel_rfl
theorem f_pop_from (O : Ok1 c w) : IFn c (.ref 53) 1 p_pop_from := by
  refine IFn_defB (k := 0) (names := [("self" : Str), ("i" : Str), ("popped" : Str)]) (ps := [("self" : Str), ("i" : Str)]) (O.nt (by decide)) (O.KX 53 _ rfl) rfl ⟨_, _, _, _, rfl, O.KX 52 _ rfl, rfl, rfl⟩ ?_ rfl rfl rfl (fun _ _ h => nomatch h) (fun _ _ _ h => nomatch h) exPF ?_ rfl (by decide) (by decide) (by decide) fun L => ?_
  · intro b hb; cases hb; exact O.nt (by decide)
  · intro al g s vs0 ds0 ds W r e
    have X := O.AK.at W
    unfold exPF at e
    split at e
    · cases e
      cases r with
      | cons ra r =>
        cases r
        exact ⟨[_, .int 0 _], .cons ra (.cons (.int _ _) .nil), BindsTo.of_defaults rfl (X _ _ rfl) rfl rfl rfl⟩
    · cases e
      cases r with
      | cons ra r => cases r with
        | cons rb r =>
          cases r
          exact ⟨[_, _], .cons ra (.cons rb .nil), BindsTo.of_defaults rfl (X _ _ rfl) rfl rfl rfl⟩
    · cases e
  · exact ISA_of (IS_cons (I1_assign 2 rfl (.inl rfl) (IE_accSlice O.AK O.dq O.gi (IE_name 0 rfl) (IP_some (IE_name 1 rfl)))) (IS_cons (I1_accCut O.AK O.dq O.si (IE_name 0 rfl) (IP_some (IE_name 1 rfl))) (IS_cons (I1_ret (IE_name 2 rfl)) IS_nil)))
theorem f_len (O : Ok1 c w) : IFn c (.ref 68) 2 p_len := by
  refine IFn_def (k := 1) (names := [("self" : Str)]) (ps := [("self" : Str)]) (O.nt (by decide)) (O.KX 68 _ rfl) rfl ⟨_, _, _, _, rfl, O.KX 67 _ rfl, rfl, rfl⟩ ?_ rfl rfl rfl (fun _ _ h => nomatch h) (fun _ _ _ h => nomatch h) ?_ rfl (by decide) (by decide) (by decide) fun L => ?_
  · intro b hb; cases hb; exact O.nt (by decide)
  · exact all1 fun a s => BindsTo.of_eq rfl
  · obtain ⟨bm, b1, b2, b3, b4⟩ := O.bm
    obtain ⟨cd, h1, hd⟩ : ∃ cd, clsIn (KK w) c.C = some cd ∧ cd.hasDict = true := ⟨_, by rw [O.C]; rfl, rfl⟩
    refine ISA_of (IS_cons (I1_ret (IE_accSum (cc := 67) (P := 63) (bm := bm) (xa := "fws") (xb := "part") (cl := []) ⟨O.AK, O.AK.isl, by rw [O.C]; kernel_rfl, O.T1, rfl, rfl, rfl, by decide, rfl, rfl, rfl, by decide, rfl, b1, b2, b3, b4⟩ h1 hd (by rw [O.C]; kernel_rfl) (O.b_sum rfl) rfl rfl (Nat.le_of_ble_eq_true rfl) ?_)) IS_nil)
    intro A' E' C code p t u s₂ m₂ hh z1 z2 n e1 e2 ng nb
    exact gen_add (O.mgN (by kernel_rfl)) (by rw [O.mb _ (by decide +kernel)]; kernel_rfl) rfl rfl rfl rfl rfl rfl z1 z2 n e1 e2 ng nb rfl rfl rfl rfl
theorem f_str (O : Ok1 c w) : IFn c (.ref 75) 2 p_str := by
  refine IFn_def (k := 1) (names := [("self" : Str)]) (ps := [("self" : Str)]) (O.nt (by decide)) (O.KX 75 _ rfl) rfl ⟨_, _, _, _, rfl, O.KX 74 _ rfl, rfl, rfl⟩ ?_ rfl rfl rfl (fun _ _ h => nomatch h) (fun _ _ _ h => nomatch h) ?_ rfl (by decide) (by decide) (by decide) fun L => ?_
  · intro b hb; cases hb; exact O.nt (by decide)
  · exact all1 fun a s => BindsTo.of_eq rfl
  · obtain ⟨bm, b1, b2, b3, b4⟩ := O.bm
    obtain ⟨te, hte⟩ : ∃ te, c.mg "EMPTYSTRING" = some (.str "" te) := ⟨196, O.mg (by kernel_rfl)⟩
    refine ISA_of (IS_cons (I1_ret (IE_accJoin (cc := 74) (P := 70) (bm := bm) (xa := "fws") (xb := "part") (cl := []) ⟨O.AK, O.AK.isl, by rw [O.C]; kernel_rfl, O.T2, rfl, rfl, rfl, by decide, rfl, rfl, rfl, by decide, rfl, b1, b2, b3, b4⟩ ⟨rfl, .inl hte⟩ rfl (Nat.le_of_ble_eq_true rfl) ?_)) IS_nil)
    intro A' E' C code p t u s₂ m₂ hh z1 z2 n e1 e2 ng nb
    exact gen_join hte rfl rfl rfl rfl rfl z1 z2 n e1 e2 ng rfl rfl rfl rfl rfl rfl rfl
theorem newOk (O : Ok1 c w) : ∃ fd cd, NewOk c (KK w) fd 38 25 37 cd := by
  refine ⟨_, _, { S := ⟨⟨_, _, _, rfl⟩, ⟨_, rfl, rfl⟩, rfl, ⟨_, _, _, _, _, rfl, by rw [O.prog]; rfl⟩, rfl, ⟨_, _, _, by rw [O.C]; rfl⟩, by rw [O.C]; rfl, by rw [O.C]; kernel_rfl, by rw [O.C]; kernel_rfl, rfl, rfl, rfl, rfl, by rw [O.prog]; rfl, by kernel_rfl, O.mgN (by kernel_rfl), by rw [O.mb _ (by decide +kernel)]; kernel_rfl, rfl, rfl⟩, mks := by rw [O.C]; kernel_rfl, ini := by rw [O.C]; kernel_rfl, ity := rfl, crec := ⟨_, _, _, _, rfl, O.KX 37 _ rfl, rfl, rfl⟩, ct := O.nt (by decide), bind := ?_, ki := rfl, hcell := by decide, mro := ?_, dct := rfl, no := by rw [O.C]; kernel_rfl, set := by rw [O.C]; kernel_rfl, sup := by rw [O.C]; kernel_rfl, co := rfl, gen := rfl, low := fun b o e => Heap.lt_size (O.KX b o e), glow := ?_, body := ?_ }⟩
  · intro s x v X
    exact BindsTo.of_defaults rfl (X _ _ rfl) rfl rfl rfl
  · rw [O.C]
  · obtain ⟨_, _, _, h1, _⟩ := c.gns
    obtain ⟨_, _, _, h2, _⟩ := c.bns
    exact ⟨Heap.lt_size h1, Heap.lt_size h2⟩
  · refine ⟨_, _, _, _, _, _, _, _, _, _, rfl, fun L => rfl⟩
end
end Mine
end
section
open PySem PySem.W PyProof.Rows PySem.W.X
set_option maxHeartbeats 1000000
namespace Mine
section
variable {c : Cx} {w : World}
theorem ne_cell {o : Option NameKind} (h : o = some .cell) : o ≠ some .local := by rw [h]; decide
theorem sub1 {E : List (Str × Addr)} {x1 x b : _} {b1 : Addr} (h1 : E.lookup x1 = some b1) (h : List.lookup x [((x1 : Str), b1)] = some b) : E.lookup x = some b := by
  unfold List.lookup at h
  split at h
  · rename_i q; cases h; rw [beq_iff_eq.mp q]; exact h1
  · cases h
theorem sub2 {E : List (Str × Addr)} {x1 x2 x b : _} {b1 b2 : Addr} (h1 : E.lookup x1 = some b1) (h2 : E.lookup x2 = some b2) (h : List.lookup x [((x1 : Str), b1), ((x2 : Str), b2)] = some b) : E.lookup x = some b := by
  unfold List.lookup at h
  split at h
  · rename_i q; cases h; rw [beq_iff_eq.mp q]; exact h1
  · exact sub1 h2 h
theorem ne_free {o : Option NameKind} (h : o = some .free) : o ≠ some .local := by rw [h]; decide
theorem Ok1.g_table (O : Ok1 c w) {F : Frm} (h : F.env.kindOf "_filemode_table" = some .globalImplicit) : GlobIs c F "_filemode_table" (.ref 145) := ⟨h, .inl (O.mg (by kernel_rfl))⟩
theorem den_table (O : Ok1 c w) : Den g00 c.h0 (.ref 145) dTable := by
  have T : ∀ {a : Addr} {vs : List Value} {n : Nat} {ds : List D}, (kheap w.params).lookup a = some (tupO vs n) → DenAll g00 c.h0 vs ds → Den g00 c.h0 (.ref a) (.tup ds) := fun e r => .tup (O.KX _ _ e) (fun h => h) r
  refine T rfl ?_
  repeat' first | exact .nil | exact .int _ _ | exact .str _ _ | refine .cons ?_ ?_ | refine T rfl ?_
theorem f_S_IFMT (O : Ok1 c w) : IFn c (.ref 112) 1 p_S_IFMT := by
  refine IFn_own (k := 0) (names := [("mode" : Str)]) (ps := [("mode" : Str)]) (O.nt (by decide)) (O.KX 112 _ rfl) rfl ⟨_, _, _, _, rfl, O.KX 111 _ rfl, rfl, rfl⟩ ?_ ?_ rfl (by decide) (by decide) (by decide) fun L => ?_
  · intro b hb; cases hb; exact O.nt (by decide)
  · exact all1 fun a => rfl
  · skip
    exact (IS_cons (m := s_S_IFMT_0) (I1_ret (f := x_S_IFMT_0) (IE_bin (IE_name 0 rfl) IE_int op_and)) IS_nil)
theorem f_filemode (O : Ok1 c w) : IFn c (.ref 152) 2 p_filemode := by
  refine IFn_own (k := 1) (names := [("mode" : Str), ("perm" : Str), ("index" : Str), ("table" : Str), ("bit" : Str), ("char" : Str)]) (ps := [("mode" : Str)]) (O.nt (by decide)) (O.KX 152 _ rfl) rfl ⟨_, _, _, _, rfl, O.KX 151 _ rfl, rfl, rfl⟩ ?_ ?_ rfl (by decide) (by decide) (by decide) fun L => ?_
  · intro b hb; cases hb; exact O.nt (by decide)
  · exact all1 fun a => rfl
  · skip
    exact (IS_cons (m := s_filemode_0) (I1_assign 1 rfl (.inl rfl) (IE_listBox IL_nil)) (IS_cons (m := s_filemode_1) (I1_for (mi := i_filemode_1) (mb := b_filemode_1) (me := o_filemode_1) (IIt_enum (O.b_enumerate rfl) (IL_cons (IE_glob (O.g_table rfl) (den_table O)) IL_nil)) (IA_tuple (is := [2, 3]) (.cons rfl (.inl rfl) (.cons rfl (.inl rfl) .nil))) (IS_cons (I1_for (mi := i_filemode_0) (mb := b_filemode_0) (me := o_filemode_0) (IIt_val (IE_name 3 rfl)) (IA_tuple (is := [4, 5]) (.cons rfl (.inl rfl) (.cons rfl (.inl rfl) .nil))) (IS_cons (I1_if (mt := t_filemode_0) (IT_cmp (IE_name 2 rfl) IE_int op_eq) (IS_cons (I1_if (mt := t_filemode_1) (IT_cmp (IE_call (O.g_S_IFMT rfl) (f_S_IFMT O) (Nat.le_of_ble_eq_true rfl) (IL_cons (IE_name 0 rfl) IL_nil)) (IE_name 4 rfl) op_eq) (IS_cons (I1_expr (f := x_filemode_0) (IE_append (IE_name 1 rfl) (IL_cons (IE_name 5 rfl) IL_nil))) (IS_cons I1_brk IS_nil)) IS_nil) IS_nil) (IS_cons (I1_if (mt := t_filemode_2) (IT_cmp (IE_bin (IE_name 0 rfl) (IE_name 4 rfl) op_and) (IE_name 4 rfl) op_eq) (IS_cons (I1_expr (f := x_filemode_1) (IE_append (IE_name 1 rfl) (IL_cons (IE_name 5 rfl) IL_nil))) (IS_cons I1_brk IS_nil)) IS_nil) IS_nil)) IS_nil) (IS_cons (I1_if (mt := t_filemode_3) (IT_cmp (IE_name 2 rfl) IE_int op_eq) (IS_cons (I1_expr (f := x_filemode_2) (IE_append (IE_name 1 rfl) (IL_cons IE_str IL_nil))) IS_nil) (IS_cons (I1_expr (f := x_filemode_3) (IE_append (IE_name 1 rfl) (IL_cons IE_str IL_nil))) IS_nil)) IS_nil)) IS_nil) IS_nil) (IS_cons (m := s_filemode_2) (I1_ret (f := x_filemode_4) (IE_join IE_str (IL_cons (IE_name 1 rfl) IL_nil))) IS_nil)))
theorem f_law_modes (O : Ok1 c w) : IFn c (.ref 157) 1 p_law_modes := by
  refine IFn_own (k := 0) (names := [("script" : Str), ("numbers" : Str), ("bases" : Str)]) (ps := [("script" : Str)]) (O.nt (by decide)) (O.KX 157 _ rfl) rfl ⟨_, _, _, _, rfl, O.KX 156 _ rfl, rfl, rfl⟩ ?_ ?_ rfl (by decide) (by decide) (by decide) fun L => ?_
  · intro b hb; cases hb; exact O.nt (by decide)
  · exact all1 fun a => rfl
  · skip
    exact (IS_cons (m := s_law_modes_0) (I1_assign 1 (f := x_law_modes_0) rfl (.inl rfl) (IE_bin (IE_slice (IE_name 0 rfl) IP_none (IP_some IE_int) IP_none) (IE_slice (IE_list (IL_cons IE_int (IL_cons IE_int (IL_cons IE_int (IL_cons IE_int IL_nil))))) (IP_some (IE_bcall (O.b_len rfl) (IL_cons (IE_name 0 rfl) IL_nil) op_len)) IP_none IP_none) op_add)) (IS_cons (m := s_law_modes_1) (I1_assign 2 (f := x_law_modes_1) rfl (.inl rfl) (IE_list (IL_cons IE_int (IL_cons IE_int (IL_cons IE_int (IL_cons IE_int (IL_cons IE_int (IL_cons IE_int IL_nil)))))))) (IS_cons (m := s_law_modes_2) (I1_ret (f := x_law_modes_2) (IE_lc (loc := [("base" : Str), ("number" : Str)]) (cap := []) (is := []) (compOk0 rfl (by decide) rfl (by decide) (by decide)) (IIt_zip (O.b_zip rfl) (IL_cons (IE_name 2 rfl) (IL_cons (IE_name 1 rfl) IL_nil))) (m := e_law_modes_0) (fun _ => loop_plain) (fun _ => (IA_tuple (is := [0, 1]) (.cons rfl (.inl rfl) (.cons rfl (.inl rfl) .nil)))) (fun _ => (IEm_emit (IE_bin (IE_bin (IE_name 0 rfl) (IE_name 1 rfl) op_add) IE_int op_mod))))) IS_nil)))
theorem f_law_row (O : Ok1 c w) : IFn c (.ref 164) 1 p_law_row := by
  refine IFn_own (k := 0) (names := [("mode" : Str), ("row" : Str), ("q" : Str), ("rights" : Str)]) (ps := [("mode" : Str)]) (O.nt (by decide)) (O.KX 164 _ rfl) rfl ⟨_, _, _, _, rfl, O.KX 163 _ rfl, rfl, rfl⟩ ?_ ?_ rfl (by decide) (by decide) (by decide) fun L => ?_
  · intro b hb; cases hb; exact O.nt (by decide)
  · exact all1 fun a => rfl
  · skip
    exact (IS_cons (m := s_law_row_0) (I1_assign 1 (f := x_law_row_0) rfl (.inl rfl) (IE_item IE_str (IE_bin (IE_name 0 rfl) IE_int op_div))) (IS_cons (m := s_law_row_1) (I1_for (mi := i_law_row_0) (mb := b_law_row_0) (me := o_law_row_0) (IIt_range1 (O.b_range rfl) (IL_cons IE_int IL_nil)) (IA_name 2 rfl (.inl rfl)) (IS_cons (I1_assign 3 (f := x_law_row_1) rfl (.inl rfl) (IE_bin (IE_bin (IE_name 0 rfl) (IE_bin IE_int (IE_bin IE_int (IE_name 2 rfl) op_sub) op_pow) op_div) IE_int op_mod)) (IS_cons (I1_aug 1 (f := x_law_row_2) rfl rfl (IE_bin (IE_if (IT_cmp (IE_name 3 rfl) IE_int op_gt) IE_str IE_str) (IE_if (IT_cmp (IE_bin (IE_bin (IE_name 3 rfl) IE_int op_div) IE_int op_mod) IE_int op_eq) IE_str IE_str) op_add)) (IS_cons (I1_aug 1 (f := x_law_row_3) rfl rfl (IE_item (IE_if (IT_cmp (IE_name 2 rfl) IE_int op_lt) IE_str IE_str) (IE_bin (IE_bin (IE_name 3 rfl) IE_int op_mod) (IE_bin (IE_bin (IE_bin (IE_name 0 rfl) (IE_bin IE_int (IE_bin IE_int (IE_name 2 rfl) op_sub) op_pow) op_div) IE_int op_mod) IE_int op_mul) op_add))) IS_nil))) IS_nil) (IS_cons (m := s_law_row_2) (I1_ret (f := x_law_row_4) (IE_name 1 rfl)) IS_nil)))
theorem f_law_next (O : Ok1 c w) : IFn c (.ref 171) 1 p_law_next := by
  refine IFn_own (k := 0) (names := [("mode" : Str), ("q" : Str), ("rights" : Str)]) (ps := [("mode" : Str), ("q" : Str)]) (O.nt (by decide)) (O.KX 171 _ rfl) rfl ⟨_, _, _, _, rfl, O.KX 170 _ rfl, rfl, rfl⟩ ?_ ?_ rfl (by decide) (by decide) (by decide) fun L => ?_
  · intro b hb; cases hb; exact O.nt (by decide)
  · exact all2 fun a b => rfl
  · skip
    exact (IS_cons (m := s_law_next_0) (I1_assign 2 (f := x_law_next_0) rfl (.inl rfl) (IE_bin (IE_bin (IE_name 0 rfl) (IE_bin IE_int (IE_bin IE_int (IE_name 1 rfl) op_sub) op_pow) op_div) IE_int op_mod)) (IS_cons (m := s_law_next_1) (I1_ret (f := x_law_next_1) (IE_bin (IE_bin (IE_bin (IE_bin (IE_bin (IE_name 2 rfl) IE_int op_div) (IE_bin (IE_bin (IE_bin (IE_name 2 rfl) IE_int op_div) IE_int op_mod) IE_int op_mul) op_add) (IE_bin (IE_name 2 rfl) IE_int op_mod) op_add) (IE_bin (IE_bin (IE_bin (IE_name 0 rfl) (IE_bin IE_int (IE_bin IE_int (IE_name 1 rfl) op_sub) op_pow) op_div) IE_int op_mod) IE_int op_mul) op_add) IE_int op_mod)) IS_nil))
theorem worth_at (a : Addr) (α : List Acc) (β : List (List D)) (x : Str) : e_law_worth_0 a ⟨[some (.str x), some (.adr a)], α, β⟩ = some ([.int ((lWorth.lookup x).getD 0)], ⟨[some (.str x), some (.adr a)], α, β⟩) := by
  have h : getD' a lWorth (.adr a) (.str x) (.int 0) = some (.int ((lWorth.lookup x).getD 0)) := by unfold getD'; exact if_pos rfl
  have h2 : (bd (rd 1) fun d => bd (rd 0) fun k => bd (rt (.int 0)) fun z => lf (getD' a lWorth d k z) : Mx D) ⟨[some (.str x), some (.adr a)], α, β⟩ = some (.int ((lWorth.lookup x).getD 0), ⟨[some (.str x), some (.adr a)], α, β⟩) := by
    show lf (getD' a lWorth (.adr a) (.str x) (.int 0)) _ = _
    rw [h]; rfl
  unfold e_law_worth_0
  rw [bd_ev h2]; rfl
theorem worth_loop (a : Addr) (α : List Acc) (β : List (List D)) : ∀ (l : List D) (ns : List Int) (x : Option D), worthD l = some ns → ∃ y, clsM (fun d σ => some (wr 0 d σ)) (e_law_worth_0 a) l ⟨[x, some (.adr a)], α, β⟩ = some (ns.map .int, ⟨[y, some (.adr a)], α, β⟩)
  | [], ns, x, h => by cases h; exact ⟨x, rfl⟩
  | .str z :: l, ns, x, h => by
    obtain ⟨ms, h1, h2⟩ := Option.map_eq_some_iff.mp h
    subst h2
    obtain ⟨y, e⟩ := worth_loop a α β l ms (some (.str z)) h1
    exact ⟨y, cls_cons (σ1 := ⟨[some (.str z), some (.adr a)], α, β⟩) rfl (worth_at a α β z) e⟩
theorem worth_ints : ∀ (ns : List Int), intsD (ns.map .int) = some ns
  | [] => rfl
  | n :: ns => by show (intsD (ns.map .int)).map (n :: ·) = _; rw [worth_ints ns]; rfl
theorem worth_len : ∀ (l : List D) (ns : List Int), worthD l = some ns → ns.length = l.length
  | [], ns, h => by cases h; rfl
  | .str z :: l, ns, h => by
    obtain ⟨ms, h1, h2⟩ := Option.map_eq_some_iff.mp h
    subst h2
    simp [worth_len l ms h1]
theorem run_worth (a : Addr) (σ : MS) (fl : Fl) (h : r_law_worth σ = some fl) : s_law_worth_1 a (wr 1 (.adr a) σ) = some (fl, wr 1 (.adr a) σ) := by
  obtain ⟨v, α, β⟩ := σ
  unfold r_law_worth at h
  split at h
  · rename_i d ev
    split at h
    · rename_i l hl
      split at h
      · rename_i ns hns
        split at h
        · rename_i hz
          cases h
          have ev : v = [some d, none] := ev
          subst ev
          have hl : seqD d = some l := hl
          obtain ⟨y, e⟩ := worth_loop a α β l ns none hns
          have hi : (bd (rd 0) fun d => lf (itM false d) : Mx (List D)) ⟨[some d, some (.adr a)], α, β⟩ = some (l, ⟨[some d, some (.adr a)], α, β⟩) := by
            have : itM false d = some l := by unfold itM; rw [hl]; rfl
            rw [bd_ev (rd_ev (d := d) rfl), this]; rfl
          have hc := comp_ev (n := 1) (is := [1]) (asg := fun d σ => some (wr 0 d σ)) (m := e_law_worth_0 a) hi (show clsM _ _ l (capV 1 [1] _) = _ from e) (by rw [List.length_map, worth_len l ns hns]; exact hz)
          have hs : sumLM [.lst (ns.map .int)] ⟨[some d, some (.adr a)], α, β⟩ = some (.int ns.sum, ⟨[some d, some (.adr a)], α, β⟩) := by
            show (match intsD (ns.map .int) with | some ns => some (D.int ns.sum, (⟨[some d, some (.adr a)], α, β⟩ : MS)) | none => none) = _
            rw [worth_ints]
          have h1 : (bd (compM 1 [1] (bd (rd 0) fun d => lf (itM false d)) (fun d σ => some (wr 0 d σ)) (e_law_worth_0 a)) fun d => bd (rt []) fun ds => rt (d :: ds) : Mx (List D)) ⟨[some d, some (.adr a)], α, β⟩ = some ([.lst (ns.map .int)], ⟨[some d, some (.adr a)], α, β⟩) := by
            rw [bd_ev hc]; rfl
          have h2 : x_law_worth_0 a ⟨[some d, some (.adr a)], α, β⟩ = some (.int (ns.sum.fmod 3), ⟨[some d, some (.adr a)], α, β⟩) := by
            have h3 : (bd (bd (compM 1 [1] (bd (rd 0) fun d => lf (itM false d)) (fun d σ => some (wr 0 d σ)) (e_law_worth_0 a)) fun d => bd (rt []) fun ds => rt (d :: ds)) fun ds => sumLM ds : Mx D) ⟨[some d, some (.adr a)], α, β⟩ = some (.int ns.sum, ⟨[some d, some (.adr a)], α, β⟩) := by
              rw [bd_ev h1]; exact hs
            unfold x_law_worth_0
            rw [bd_ev h3]
            have : modD (.int ns.sum) (.int 3) = some (.int (ns.sum.fmod 3)) := rfl
            show lf (modD (.int ns.sum) (.int 3)) _ = _
            rw [this]; rfl
          show s_law_worth_1 a ⟨[some d, some (.adr a)], α, β⟩ = _
          unfold s_law_worth_1
          rw [sq_rt, bd_ev h2]; rfl
        · cases h
      · cases h
    · cases h
  · cases h
theorem f_law_worth (O : Ok1 c w) : IFn c (.ref 176) 1 p_law_worth := by
  refine IFn_own (k := 0) (names := [("signs" : Str), ("worth" : Str)]) (ps := [("signs" : Str)]) (O.nt (by decide)) (O.KX 176 _ rfl) rfl ⟨_, _, _, _, rfl, O.KX 175 _ rfl, rfl, rfl⟩ ?_ ?_ rfl (by decide) (by decide) (by decide) fun L => ?_
  · intro b hb; cases hb; exact O.nt (by decide)
  · exact all1 fun a => rfl
  · refine' IS_dictThen (l := lWorth) (m := s_law_worth_1) (r := r_law_worth) 1 ?hx ?hk ?sh ?hp ?h0 ?hl ?nd ?rest ?run ?sw
    case hx => rfl
    case hk => exact .inr ⟨rfl, _, rfl, by first | exact .tail _ (.head _) | exact .tail _ (.tail _ (.head _))⟩
    case sw => rfl
    case nd => decide
    case run => exact run_worth
    case' hp =>
      unfold lWorth
      refine' .cons (.cons (.cons (.cons (.cons (.cons (.cons .nil))))))
    case sh => rfl
    case h0 => exact fun h => nomatch h
    case hl => exact Nat.le_of_ble_eq_true rfl
    case rest => exact fun a => IS_cons (I1_ret (f := x_law_worth_0 a) (IE_bin (IE_bcall (c := c.dct a lWorth) (O.b_sum (c := c) rfl) (IL_cons (IE_lc (loc := [("sign" : Str)]) (cap := [("worth" : Str)]) (is := [1]) ({ clos := rfl, cell := by decide, kind := rfl, names := by decide, nod := by decide, sub := (fun x b h => by first | exact h | exact sub1 rfl h), capt := cap1 ⟨1, rfl, rfl, by first | exact ne_cell rfl | exact ne_free rfl, rfl, by first | exact .inl rfl | exact .inr rfl⟩ }) (IIt_val (IE_name 0 rfl)) (m := e_law_worth_0 a) (fun _ => loop_plain) (fun _ => (IA_name 0 rfl (.inl rfl))) (fun _ => IEm_emit (IE_get (IE_name 1 rfl) (IE_name 0 rfl) IE_int))) IL_nil) op_sum) IE_int op_mod)) IS_nil
    all_goals first | exact (0 : Nat) | exact ⟨0, 0, 0, 0⟩
theorem f_law_kind (O : Ok1 c w) : IFn c (.ref 183) 1 p_law_kind := by
  refine IFn_own (k := 0) (names := [("piece" : Str)]) (ps := [("piece" : Str)]) (O.nt (by decide)) (O.KX 183 _ rfl) rfl ⟨_, _, _, _, rfl, O.KX 182 _ rfl, rfl, rfl⟩ ?_ ?_ rfl (by decide) (by decide) (by decide) fun L => ?_
  · intro b hb; cases hb; exact O.nt (by decide)
  · exact all1 fun a => rfl
  · skip
    exact (IS_cons (m := s_law_kind_0) (I1_ret (f := x_law_kind_0) (IE_if (IT_cmp (IE_item (IE_name 0 rfl) IE_int) IE_str op_eq) IE_int (IE_bin IE_int (IE_bcall (O.b_len rfl) (IL_cons (IE_item (IE_name 0 rfl) IE_int) IL_nil) op_len) op_add))) IS_nil)
theorem f_law_forth (O : Ok1 c w) : IFn c (.ref 190) 3 p_law_forth := by
  refine IFn_own (k := 2) (names := [("turns" : Str), ("tape" : Str), ("near" : Str), ("far" : Str), ("state" : Str), ("sign" : Str), ("piece" : Str)]) (ps := [("turns" : Str), ("tape" : Str)]) (O.nt (by decide)) (O.KX 190 _ rfl) rfl ⟨_, _, _, _, rfl, O.KX 189 _ rfl, rfl, rfl⟩ ?_ ?_ rfl (by decide) (by decide) (by decide) fun L => ?_
  · intro b hb; cases hb; exact O.nt (by decide)
  · exact all2 fun a b => rfl
  · obtain ⟨fdN, cdN, hN⟩ := newOk O
    exact (IS_cons (m := s_law_forth_0) (I1_assignW (f := x_law_forth_0) (xs := [("near" : Str), ("far" : Str), ("state" : Str)]) (is := [4, 3, 2]) (.cons rfl (.inl rfl) (.cons rfl (.inl rfl) (.cons rfl (.inl rfl) .nil))) (IE_tuple (IL_cons (IE_newAcc O.AK hN (Nat.le_of_ble_eq_true rfl) (O.g_Accumulator rfl) (IL_cons IE_int IL_nil)) (IL_cons (IE_newAcc O.AK hN (Nat.le_of_ble_eq_true rfl) (O.g_Accumulator rfl) (IL_cons IE_int IL_nil)) (IL_cons IE_int IL_nil)))) rfl) (IS_cons (m := s_law_forth_1) (I1_for (mi := i_law_forth_0) (mb := b_law_forth_0) (me := o_law_forth_0) (IIt_val (IE_slice (IE_name 1 rfl) IP_none IP_none (IP_some (IE_neg IE_int)))) (IA_name 5 rfl (.inl rfl)) (IS_cons (I1_expr (f := x_law_forth_1) (IE_accCall O.AK O.at_push O.ty_push (f_push O) (Nat.le_of_ble_eq_true rfl) (IE_name 3 rfl) (IL_cons (IE_if (IT_cmp (IE_name 5 rfl) IE_str op_in) IE_str IE_str) (IL_cons (IE_if (IT_cmp (IE_name 5 rfl) IE_str op_eq) IE_str (IE_name 5 rfl)) IL_nil)))) IS_nil) IS_nil) (IS_cons (m := s_law_forth_2) (I1_for (mi := i_law_forth_1) (mb := b_law_forth_1) (me := o_law_forth_1) (IIt_val (IE_name 1 rfl)) (IA_name 5 rfl (.inl rfl)) (IS_cons (I1_assign 6 (f := x_law_forth_2) rfl (.inl rfl) (IE_accCall0 O.AK O.at_pop O.ty_pop (f_pop O) (Nat.le_of_ble_eq_true rfl) (IE_name 3 rfl))) (IS_cons (I1_expr (f := x_law_forth_3) (IE_accCall O.AK O.at_push O.ty_push (f_push O) (Nat.le_of_ble_eq_true rfl) (IE_name 2 rfl) (IL_cons (IE_item (IE_name 6 rfl) IE_int) (IL_cons (IE_item (IE_name 6 rfl) IE_int) IL_nil)))) (IS_cons (I1_assign 4 (f := x_law_forth_4) rfl (.inl rfl) (IE_item (IE_item (IE_name 0 rfl) (IE_call (O.g_law_kind rfl) (f_law_kind O) (Nat.le_of_ble_eq_true rfl) (IL_cons (IE_name 6 rfl) IL_nil))) (IE_name 4 rfl))) IS_nil))) IS_nil) (IS_cons (m := s_law_forth_3) (I1_ret (f := x_law_forth_5) (IE_tuple (IL_cons (IE_name 2 rfl) (IL_cons (IE_name 3 rfl) (IL_cons (IE_name 4 rfl) IL_nil))))) IS_nil))))
theorem f_law_back (O : Ok1 c w) : IFn c (.ref 195) 3 p_law_back := by
  refine IFn_own (k := 2) (names := [("turns" : Str), ("near" : Str), ("far" : Str), ("state" : Str), ("piece" : Str), ("after" : Str), ("before" : Str), ("found" : Str), ("passed" : Str), ("pasts" : Str), ("turn" : Str), ("older" : Str), ("one" : Str), ("other" : Str)]) (ps := [("turns" : Str), ("near" : Str), ("far" : Str), ("state" : Str)]) (O.nt (by decide)) (O.KX 195 _ rfl) rfl ⟨_, _, _, _, rfl, O.KX 194 _ rfl, rfl, rfl⟩ ?_ ?_ rfl (by decide) (by decide) (by decide) fun L => ?_
  · intro b hb; cases hb; exact O.nt (by decide)
  · exact all4 fun a b c d => rfl
  · skip
    exact (IS_cons (m := s_law_back_0) (I1_assign 4 (f := x_law_back_0) rfl (.inl rfl) (IE_accCall0 O.AK O.at_pop O.ty_pop (f_pop O) (Nat.le_of_ble_eq_true rfl) (IE_name 1 rfl))) (IS_cons (m := s_law_back_1) (I1_expr (f := x_law_back_1) (IE_accCall O.AK O.at_push O.ty_push (f_push O) (Nat.le_of_ble_eq_true rfl) (IE_name 2 rfl) (IL_cons (IE_item (IE_name 4 rfl) IE_int) (IL_cons (IE_item (IE_name 4 rfl) IE_int) IL_nil)))) (IS_cons (m := s_law_back_2) (I1_assign 5 (f := x_law_back_2) rfl (.inr ⟨rfl, _, rfl, by first | exact .tail _ (.head _) | exact .tail _ (.tail _ (.head _)) | exact .tail _ (.tail _ (.tail _ (.head _)))⟩) (IE_item (IE_name 0 rfl) (IE_call (O.g_law_kind rfl) (f_law_kind O) (Nat.le_of_ble_eq_true rfl) (IL_cons (IE_name 4 rfl) IL_nil)))) (IS_cons (m := s_law_back_3) (I1_assign_lc 6 rfl (.inl rfl) (loc := [("q" : Str)]) (cap := [("after" : Str), ("state" : Str)]) (is := [5, 3]) ({ clos := rfl, cell := by decide, kind := rfl, names := by decide, nod := by decide, sub := (fun x b h => by first | exact h | exact sub2 rfl rfl h), capt := cap2 ⟨5, rfl, rfl, by first | exact ne_cell rfl | exact ne_free rfl, rfl, by first | exact .inl rfl | exact .inr rfl⟩ ⟨3, rfl, rfl, by first | exact ne_cell rfl | exact ne_free rfl, rfl, by first | exact .inl rfl | exact .inr rfl⟩ }) (IIt_range1 (O.b_range rfl) (IL_cons IE_int IL_nil)) (m := e_law_back_0) (fun _ => loop_test) (fun _ => (IA_name 0 rfl (.inl rfl))) (fun _ => (IEm_test (IT_cmp (IE_item (IE_name 1 rfl) (IE_name 0 rfl)) (IE_name 2 rfl) op_eq) (IEm_emit (IE_name 0 rfl))))) (IS_cons (m := s_law_back_4) (I1_assignW (f := x_law_back_3) (xs := [("found" : Str), ("passed" : Str), ("pasts" : Str)]) (is := [9, 8, 7]) (.cons rfl (.inl rfl) (.cons rfl (.inl rfl) (.cons rfl (.inl rfl) .nil))) (IE_tuple (IL_cons (IE_name 6 rfl) (IL_cons (IE_listBox IL_nil) (IL_cons (IE_lc (loc := [("q" : Str)]) (cap := []) (is := []) (compOk0 rfl (by decide) rfl (by decide) (by decide)) (IIt_val (IE_name 6 rfl)) (m := e_law_back_1) (fun _ => loop_plain) (fun _ => (IA_name 0 rfl (.inl rfl))) (fun _ => (IEm_emit (IE_list (IL_cons (IE_name 0 rfl) IL_nil))))) IL_nil)))) rfl) (IS_cons (m := s_law_back_5) (I1_if (mt := t_law_back_0) (IT_cmp (IE_bcall (O.b_len rfl) (IL_cons (IE_name 6 rfl) IL_nil) op_len) IE_int op_lt) (IS_cons (I1_ret (f := x_law_back_4) (IE_tuple (IL_cons (IE_name 7 rfl) (IL_cons (IE_name 8 rfl) IL_nil)))) IS_nil) IS_nil) (IS_cons (m := s_law_back_6) (I1_for (mi := i_law_back_0) (mb := b_law_back_0) (me := o_law_back_0) (IIt_range1 (O.b_range rfl) (IL_cons (IE_bin (IE_accCall0 O.AK O.at_part_count O.ty_part_count (f_part_count O) (Nat.le_of_ble_eq_true rfl) (IE_name 1 rfl)) IE_int op_add) IL_nil)) (IA_name 10 rfl (.inl rfl)) (IS_cons (I1_assign 4 (f := x_law_back_5) rfl (.inl rfl) (IE_accCall0 O.AK O.at_pop O.ty_pop (f_pop O) (Nat.le_of_ble_eq_true rfl) (IE_name 1 rfl))) (IS_cons (I1_if (mt := t_law_back_1) (IT_cmp (IE_name 4 rfl) (IE_tuple (IL_cons IE_str (IL_cons IE_str IL_nil))) op_eq) (IS_cons (I1_assign_lc 7 rfl (.inl rfl) (loc := [("q" : Str), ("past" : Str)]) (cap := []) (is := []) (compOk0 rfl (by decide) rfl (by decide) (by decide)) (IIt_zip (O.b_zip rfl) (IL_cons (IE_name 6 rfl) (IL_cons (IE_name 9 rfl) IL_nil))) (m := e_law_back_2) (fun _ => loop_test) (fun _ => (IA_tuple (is := [0, 1]) (.cons rfl (.inl rfl) (.cons rfl (.inl rfl) .nil)))) (fun _ => (IEm_test (IT_cmp IE_int (IE_name 1 rfl) op_in) (IEm_emit (IE_name 0 rfl))))) (IS_cons I1_brk IS_nil)) IS_nil) (IS_cons (I1_expr (f := x_law_back_6) (IE_accCall O.AK O.at_push O.ty_push (f_push O) (Nat.le_of_ble_eq_true rfl) (IE_name 2 rfl) (IL_cons (IE_item (IE_name 4 rfl) IE_int) (IL_cons (IE_item (IE_name 4 rfl) IE_int) IL_nil)))) (IS_cons (I1_expr (f := x_law_back_7) (IE_append (IE_name 8 rfl) (IL_cons (IE_accCall0 O.AK O.at_part_count O.ty_part_count (f_part_count O) (Nat.le_of_ble_eq_true rfl) (IE_name 1 rfl)) IL_nil))) (IS_cons (I1_assign 5 (f := x_law_back_8) rfl (.inr ⟨rfl, _, rfl, by first | exact .tail _ (.head _) | exact .tail _ (.tail _ (.head _)) | exact .tail _ (.tail _ (.tail _ (.head _)))⟩) (IE_item (IE_name 0 rfl) (IE_call (O.g_law_kind rfl) (f_law_kind O) (Nat.le_of_ble_eq_true rfl) (IL_cons (IE_name 4 rfl) IL_nil)))) (IS_cons (I1_assign_lcX 11 rfl (.inl rfl) (z := "past") (loc := [("past" : Str)]) (cap := [("after" : Str)]) (is := [5]) ({ clos := rfl, one := fun _ _ => rfl, push := fun _ => rfl, xc := by decide, kind := rfl, names := by decide, nod := by decide, sub := (fun x b h => by first | exact h | exact sub1 rfl h), capt := cap1 ⟨5, rfl, rfl, by first | exact ne_cell rfl | exact ne_free rfl, rfl, by first | exact .inl rfl | exact .inr rfl⟩ }) (IIt_val (IE_name 9 rfl)) (m := e_law_back_4) (fun _ => loop_plain) (fun _ => (IA_name 0 rfl (.inr ⟨rfl, _, rfl, by first | exact .tail _ (.head _) | exact .tail _ (.tail _ (.head _)) | exact .tail _ (.tail _ (.tail _ (.head _)))⟩))) (fun _ => (IEm_emit (IE_lc (loc := [("q" : Str)]) (cap := [("after" : Str), ("past" : Str)]) (is := [1, 0]) ({ clos := rfl, cell := by decide, kind := rfl, names := by decide, nod := by decide, sub := (fun x b h => by first | exact h | exact sub2 rfl rfl h), capt := cap2 ⟨1, rfl, rfl, by first | exact ne_cell rfl | exact ne_free rfl, rfl, by first | exact .inl rfl | exact .inr rfl⟩ ⟨0, rfl, rfl, by first | exact ne_cell rfl | exact ne_free rfl, rfl, by first | exact .inl rfl | exact .inr rfl⟩ }) (IIt_range1 (O.b_range rfl) (IL_cons IE_int IL_nil)) (m := e_law_back_3) (fun _ => loop_test) (fun _ => (IA_name 0 rfl (.inl rfl))) (fun _ => (IEm_test (IT_cmp (IE_item (IE_name 1 rfl) (IE_name 0 rfl)) (IE_name 2 rfl) op_in) (IEm_emit (IE_name 0 rfl)))))))) (IS_cons (I1_assign_lc 7 rfl (.inl rfl) (loc := [("q" : Str), ("past" : Str)]) (cap := []) (is := []) (compOk0 rfl (by decide) rfl (by decide) (by decide)) (IIt_zip (O.b_zip rfl) (IL_cons (IE_name 6 rfl) (IL_cons (IE_name 11 rfl) IL_nil))) (m := e_law_back_5) (fun _ => loop_test) (fun _ => (IA_tuple (is := [0, 1]) (.cons rfl (.inl rfl) (.cons rfl (.inl rfl) .nil)))) (fun _ => (IEm_test (IT_cmp (IE_name 1 rfl) (IE_list IL_nil) op_ne) (IEm_emit (IE_name 0 rfl))))) (IS_cons (I1_if (mt := t_law_back_2) (IT_cmp (IE_bcall (O.b_len rfl) (IL_cons (IE_name 7 rfl) IL_nil) op_len) IE_int op_eq) (IS_cons (I1_assign 4 (f := x_law_back_9) rfl (.inl rfl) (IE_accCall0 O.AK O.at_pop O.ty_pop (f_pop O) (Nat.le_of_ble_eq_true rfl) (IE_name 2 rfl))) (IS_cons (I1_expr (f := x_law_back_10) (IE_accCall O.AK O.at_push O.ty_push (f_push O) (Nat.le_of_ble_eq_true rfl) (IE_name 1 rfl) (IL_cons (IE_item (IE_name 4 rfl) IE_int) (IL_cons (IE_item (IE_name 4 rfl) IE_int) IL_nil)))) (IS_cons I1_brk IS_nil))) IS_nil) (IS_cons (I1_assign 9 (f := x_law_back_11) rfl (.inl rfl) (IE_name 11 rfl)) IS_nil))))))))) IS_nil) (IS_cons (m := s_law_back_7) (I1_assignT (f := x_law_back_12) (is := [12, 13]) (.cons rfl (.inl rfl) (.cons rfl (.inl rfl) .nil)) (IE_slice (IE_lc (loc := [("past" : Str)]) (cap := []) (is := []) (compOk0 rfl (by decide) rfl (by decide) (by decide)) (IIt_val (IE_name 9 rfl)) (m := e_law_back_6) (fun _ => loop_test) (fun _ => (IA_name 0 rfl (.inl rfl))) (fun _ => (IEm_test (IT_cmp (IE_name 0 rfl) (IE_list IL_nil) op_ne) (IEm_emit (IE_item (IE_name 0 rfl) IE_int))))) IP_none (IP_some IE_int) IP_none)) (IS_cons (m := s_law_back_8) (I1_while (mt := t_law_back_3) (mb := b_law_back_1) 100 (IT_and2 (IT_cmp (IE_name 12 rfl) (IE_name 13 rfl) op_ne) (IT_cmp (IE_accCall0 O.AK O.at_part_count O.ty_part_count (f_part_count O) (Nat.le_of_ble_eq_true rfl) (IE_name 2 rfl)) IE_int op_gt)) (IS_cons (I1_assign 4 (f := x_law_back_13) rfl (.inl rfl) (IE_accCall0 O.AK O.at_pop O.ty_pop (f_pop O) (Nat.le_of_ble_eq_true rfl) (IE_name 2 rfl))) (IS_cons (I1_expr (f := x_law_back_14) (IE_accCall O.AK O.at_push O.ty_push (f_push O) (Nat.le_of_ble_eq_true rfl) (IE_name 1 rfl) (IL_cons (IE_item (IE_name 4 rfl) IE_int) (IL_cons (IE_item (IE_name 4 rfl) IE_int) IL_nil)))) (IS_cons (I1_assign 5 (f := x_law_back_15) rfl (.inr ⟨rfl, _, rfl, by first | exact .tail _ (.head _) | exact .tail _ (.tail _ (.head _)) | exact .tail _ (.tail _ (.tail _ (.head _)))⟩) (IE_item (IE_name 0 rfl) (IE_call (O.g_law_kind rfl) (f_law_kind O) (Nat.le_of_ble_eq_true rfl) (IL_cons (IE_name 4 rfl) IL_nil)))) (IS_cons (I1_assignW (f := x_law_back_16) (xs := [("one" : Str), ("other" : Str)]) (is := [13, 12]) (.cons rfl (.inl rfl) (.cons rfl (.inl rfl) .nil)) (IE_tuple (IL_cons (IE_item (IE_name 5 rfl) (IE_name 12 rfl)) (IL_cons (IE_item (IE_name 5 rfl) (IE_name 13 rfl)) IL_nil))) rfl) IS_nil))))) (IS_cons (m := s_law_back_9) (I1_assign 4 (f := x_law_back_17) rfl (.inl rfl) (IE_accCall0 O.AK O.at_pop O.ty_pop (f_pop O) (Nat.le_of_ble_eq_true rfl) (IE_name 1 rfl))) (IS_cons (m := s_law_back_10) (I1_expr (f := x_law_back_18) (IE_accCall O.AK O.at_push O.ty_push (f_push O) (Nat.le_of_ble_eq_true rfl) (IE_name 2 rfl) (IL_cons (IE_item (IE_name 4 rfl) IE_int) (IL_cons (IE_item (IE_name 4 rfl) IE_int) IL_nil)))) (IS_cons (m := s_law_back_11) (I1_ret (f := x_law_back_19) (IE_tuple (IL_cons (IE_name 7 rfl) (IL_cons (IE_name 8 rfl) IL_nil)))) IS_nil))))))))))))
theorem f_law (O : Ok1 c w) : IFn c (.ref 200) 5 p_law := by
  refine IFn_own (k := 4) (names := [("script" : Str), ("modes" : Str), ("pieces" : Str), ("states" : Str), ("sign" : Str), ("kind" : Str), ("listing" : Str), ("turns" : Str), ("near" : Str), ("far" : Str), ("state" : Str), ("found" : Str), ("passed" : Str), ("place" : Str), ("signs" : Str), ("cut" : Str), ("upper" : Str)]) (ps := [("script" : Str)]) (O.nt (by decide)) (O.KX 200 _ rfl) rfl ⟨_, _, _, _, rfl, O.KX 199 _ rfl, rfl, rfl⟩ ?_ ?_ rfl (by decide) (by decide) (by decide) fun L => ?_
  · intro b hb; cases hb; exact O.nt (by decide)
  · exact all1 fun a => rfl
  · skip
    exact (IS_cons (m := s_law_0) (I1_assign 1 (f := x_law_0) rfl (.inl rfl) (IE_call (O.g_law_modes rfl) (f_law_modes O) (Nat.le_of_ble_eq_true rfl) (IL_cons (IE_name 0 rfl) IL_nil))) (IS_cons (m := s_law_1) (I1_assignW (f := x_law_1) (xs := [("pieces" : Str), ("states" : Str)]) (is := [3, 2]) (.cons rfl (.inl rfl) (.cons rfl (.inl rfl) .nil)) (IE_tuple (IL_cons (IE_listBox IL_nil) (IL_cons (IE_listBox (IL_cons IE_int IL_nil)) IL_nil))) rfl) (IS_cons (m := s_law_2) (I1_for (mi := i_law_0) (mb := b_law_0) (me := o_law_0) (IIt_val (IE_join IE_str (IL_cons (IE_lc (loc := [("mode" : Str)]) (cap := []) (is := []) (compOk0 rfl (by decide) rfl (by decide) (by decide)) (IIt_val (IE_slice (IE_name 1 rfl) (IP_some IE_int) IP_none IP_none)) (m := e_law_0) (fun _ => loop_plain) (fun _ => (IA_name 0 rfl (.inl rfl))) (fun _ => (IEm_emit (IE_call (O.g_law_row rfl) (f_law_row O) (Nat.le_of_ble_eq_true rfl) (IL_cons (IE_name 0 rfl) IL_nil))))) IL_nil))) (IA_name 4 rfl (.inl rfl)) (IS_cons (I1_assign 5 (f := x_law_2) rfl (.inl rfl) (IE_if (IT_cmp (IE_name 4 rfl) IE_str op_eq) IE_int (IE_if (IT_cmp (IE_name 4 rfl) IE_str op_in) IE_int IE_int))) (IS_cons (I1_expr (f := x_law_3) (IE_append (IE_name 2 rfl) (IL_cons (IE_item (IE_list (IL_cons (IE_tuple (IL_cons IE_str (IL_cons IE_str IL_nil))) (IL_cons (IE_tuple (IL_cons IE_str (IL_cons (IE_name 4 rfl) IL_nil))) (IL_cons (IE_tuple (IL_cons IE_str (IL_cons (IE_name 4 rfl) IL_nil))) IL_nil)))) (IE_name 5 rfl)) IL_nil))) (IS_cons (I1_expr (f := x_law_4) (IE_append (IE_name 3 rfl) (IL_cons (IE_call (O.g_law_next rfl) (f_law_next O) (Nat.le_of_ble_eq_true rfl) (IL_cons (IE_item (IE_name 1 rfl) (IE_name 5 rfl)) (IL_cons (IE_item (IE_name 3 rfl) (IE_neg IE_int)) IL_nil))) IL_nil))) IS_nil))) IS_nil) (IS_cons (m := s_law_3) (I1_assign_lc 6 rfl (.inl rfl) (loc := [("mode" : Str)]) (cap := []) (is := []) (compOk0 rfl (by decide) rfl (by decide) (by decide)) (IIt_val (IE_name 1 rfl)) (m := e_law_1) (fun _ => loop_plain) (fun _ => (IA_name 0 rfl (.inl rfl))) (fun _ => (IEm_emit (IE_call (O.g_filemode rfl) (f_filemode O) (Nat.le_of_ble_eq_true rfl) (IL_cons (IE_name 0 rfl) IL_nil))))) (IS_cons (m := s_law_4) (I1_assign_lcX 7 rfl (.inl rfl) (z := "row") (loc := [("row" : Str)]) (cap := []) (is := []) ({ clos := rfl, one := fun _ _ => rfl, push := fun _ => rfl, xc := by decide, kind := rfl, names := by decide, nod := by decide, sub := (fun _ _ h => nomatch h), capt := (fun _ _ h => nomatch h) }) (IIt_val (IE_slice (IE_name 6 rfl) IP_none (IP_some IE_int) IP_none)) (m := e_law_3) (fun _ => loop_plain) (fun _ => (IA_name 0 rfl (.inr ⟨rfl, _, rfl, by first | exact .tail _ (.head _) | exact .tail _ (.tail _ (.head _)) | exact .tail _ (.tail _ (.tail _ (.head _)))⟩))) (fun _ => (IEm_emit (IE_lc (loc := [("start" : Str)]) (cap := [("row" : Str)]) (is := [0]) ({ clos := rfl, cell := by decide, kind := rfl, names := by decide, nod := by decide, sub := (fun x b h => by first | exact h | exact sub1 rfl h), capt := cap1 ⟨0, rfl, rfl, by first | exact ne_cell rfl | exact ne_free rfl, rfl, by first | exact .inl rfl | exact .inr rfl⟩ }) (IIt_val (IE_tuple (IL_cons IE_int (IL_cons IE_int (IL_cons IE_int IL_nil))))) (m := e_law_2) (fun _ => loop_plain) (fun _ => (IA_name 0 rfl (.inl rfl))) (fun _ => (IEm_emit (IE_call (O.g_law_worth rfl) (f_law_worth O) (Nat.le_of_ble_eq_true rfl) (IL_cons (IE_slice (IE_name 1 rfl) (IP_some (IE_name 0 rfl)) (IP_some (IE_bin (IE_name 0 rfl) IE_int op_add)) IP_none) IL_nil)))))))) (IS_cons (m := s_law_5) (I1_assignT (f := x_law_5) (is := [8, 9, 10]) (.cons rfl (.inl rfl) (.cons rfl (.inl rfl) (.cons rfl (.inl rfl) .nil))) (IE_call (O.g_law_forth rfl) (f_law_forth O) (Nat.le_of_ble_eq_true rfl) (IL_cons (IE_name 7 rfl) (IL_cons (IE_join IE_str (IL_cons (IE_slice (IE_name 6 rfl) (IP_some IE_int) IP_none IP_none) IL_nil)) IL_nil)))) (IS_cons (m := s_law_6) (I1_assignT (f := x_law_6) (is := [11, 12]) (.cons rfl (.inl rfl) (.cons rfl (.inr ⟨rfl, _, rfl, by first | exact .tail _ (.head _) | exact .tail _ (.tail _ (.head _)) | exact .tail _ (.tail _ (.tail _ (.head _)))⟩) .nil)) (IE_tuple (IL_cons (IE_list (IL_cons (IE_name 10 rfl) IL_nil)) (IL_cons (IE_listBox IL_nil) IL_nil)))) (IS_cons (m := s_law_7) (I1_for (mi := i_law_1) (mb := b_law_1) (me := o_law_1) (IIt_range3 (O.b_range rfl) (IL_cons (IE_bcall (O.b_len rfl) (IL_cons (IE_name 2 rfl) IL_nil) op_len) (IL_cons (IE_neg IE_int) (IL_cons (IE_neg IE_int) IL_nil)))) (IA_name 13 rfl (.inl rfl)) (IS_cons (I1_if (mt := t_law_0) (IT_or2 (IT_cmp (IE_name 11 rfl) (IE_list (IL_cons (IE_item (IE_name 3 rfl) (IE_name 13 rfl)) IL_nil)) op_ne) (IT_cmp (IE_accCall0 O.AK O.at_part_count O.ty_part_count (f_part_count O) (Nat.le_of_ble_eq_true rfl) (IE_name 8 rfl)) (IE_name 13 rfl) op_ne)) (IS_cons (I1_ret (f := x_law_7) IE_bool) IS_nil) IS_nil) (IS_cons (I1_if (mt := t_law_1) (IT_cmp (IE_strAcc O.AK O.at_str O.fn_str (f_str O) (Nat.le_of_ble_eq_true rfl) (O.b_str rfl) (IL_cons (IE_name 8 rfl) IL_nil)) (IE_join IE_str (IL_cons (IE_lc (loc := [("blank" : Str), ("sign" : Str)]) (cap := []) (is := []) (compOk0 rfl (by decide) rfl (by decide) (by decide)) (IIt_val (IE_slice (IE_name 2 rfl) IP_none (IP_some (IE_name 13 rfl)) IP_none)) (m := e_law_4) (fun _ => loop_plain) (fun _ => (IA_tuple (is := [0, 1]) (.cons rfl (.inl rfl) (.cons rfl (.inl rfl) .nil)))) (fun _ => (IEm_emit (IE_bin (IE_name 0 rfl) (IE_name 1 rfl) op_add)))) IL_nil)) op_ne) (IS_cons (I1_ret (f := x_law_8) IE_bool) IS_nil) IS_nil) (IS_cons (I1_if (mt := t_law_2) (IT_cmp (IE_name 13 rfl) IE_int op_gt) (IS_cons (I1_assignT (f := x_law_9) (is := [11, 14]) (.cons rfl (.inl rfl) (.cons rfl (.inl rfl) .nil)) (IE_call (O.g_law_back rfl) (f_law_back O) (Nat.le_of_ble_eq_true rfl) (IL_cons (IE_name 7 rfl) (IL_cons (IE_name 8 rfl) (IL_cons (IE_name 9 rfl) (IL_cons (IE_item (IE_name 11 rfl) IE_int) IL_nil)))))) (IS_cons (I1_expr (f := x_law_10) (IE_extend (IE_name 12 rfl) (IL_cons (IE_name 14 rfl) IL_nil))) IS_nil)) IS_nil) IS_nil))) IS_nil) (IS_cons (m := s_law_8) (I1_if (mt := t_law_3) (IT_or2 (IT_cmp (IE_bcall (O.b_len rfl) (IL_cons (IE_name 8 rfl) IL_nil) (op_lenA O.AK O.at_len O.ty_len (f_len O) (Nat.le_of_ble_eq_true rfl))) IE_int op_ne) (IT_cmp (IE_bcall (O.b_len rfl) (IL_cons (IE_name 9 rfl) IL_nil) (op_lenA O.AK O.at_len O.ty_len (f_len O) (Nat.le_of_ble_eq_true rfl))) (IE_bin IE_int (IE_bcall (O.b_sum rfl) (IL_cons (IE_lcF 2 O.tpu (by intro b hb; rcases List.mem_cons.mp hb with h | hb; exact .inl h; rcases List.mem_cons.mp hb with h | hb; exact .inr ⟨"passed", by rw [h]; rfl⟩; exact nomatch hb) rfl (loc := [("blank" : Str), ("sign" : Str)]) (cap := []) (is := []) (compOk0 rfl (by decide) rfl (by decide) (by decide)) (m := e_law_5) (fun _ => loop_plain) (fun _ => (IA_tuple (is := [0, 1]) (.cons rfl (.inl rfl) (.cons rfl (.inl rfl) .nil)))) (fun _ => (IEm_emit (IE_bcall (O.b_len rfl) (IL_cons (IE_bin (IE_name 0 rfl) (IE_name 1 rfl) op_add) IL_nil) op_len)))) IL_nil) op_sum) op_add) op_ne)) (IS_cons (I1_ret (f := x_law_11) IE_bool) IS_nil) IS_nil) (IS_cons (m := s_law_9) (I1_assign 15 (f := x_law_12) rfl (.inl rfl) (IE_bin (IE_item (IE_name 1 rfl) IE_int) IE_int op_mod)) (IS_cons (m := s_law_10) (I1_assign 16 (f := x_law_13) rfl (.inl rfl) (IE_accCall O.AK O.at_pop_from O.ty_pop_from (f_pop_from O) (Nat.le_of_ble_eq_true rfl) (IE_name 9 rfl) (IL_cons (IE_name 15 rfl) IL_nil))) (IS_cons (m := s_law_11) (I1_if (mt := t_law_4) (IT_or3 (IT_cmp (IE_accCall0 O.AK O.at_part_count O.ty_part_count (f_part_count O) (Nat.le_of_ble_eq_true rfl) (IE_name 9 rfl)) (IE_name 15 rfl) op_ne) (IT_cmp (IE_bin (IE_accCall0 O.AK O.at_pop_from O.ty_pop_from (f_pop_from O) (Nat.le_of_ble_eq_true rfl) (IE_name 9 rfl)) (IE_name 16 rfl) op_add) (IE_slice (IE_name 2 rfl) IP_none IP_none (IP_some (IE_neg IE_int))) op_ne) (IT_cmp (IE_bcall (O.b_len rfl) (IL_cons (IE_name 9 rfl) IL_nil) (op_lenA O.AK O.at_len O.ty_len (f_len O) (Nat.le_of_ble_eq_true rfl))) IE_int op_ne)) (IS_cons (I1_ret (f := x_law_14) IE_bool) IS_nil) IS_nil) (IS_cons (m := s_law_12) (I1_ret (f := x_law_15) (IE_cmp (IE_lcF 12 O.tpu (by intro b hb; rcases List.mem_cons.mp hb with h | hb; exact .inl h; rcases List.mem_cons.mp hb with h | hb; exact .inr ⟨"passed", by rw [h]; rfl⟩; exact nomatch hb) rfl (loc := [("sign" : Str)]) (cap := [("passed" : Str)]) (is := [12]) ({ clos := rfl, cell := by decide, kind := rfl, names := by decide, nod := by decide, sub := (fun x b h => by first | exact h | exact sub1 rfl h), capt := cap1 ⟨12, rfl, rfl, by first | exact ne_cell rfl | exact ne_free rfl, rfl, by first | exact .inl rfl | exact .inr rfl⟩ }) (m := e_law_6) (fun _ => loop_test) (fun _ => (IA_name 0 rfl (.inl rfl))) (fun _ => (IEm_test (IT_cmp (IE_lcount (IE_name 1 rfl) (IL_cons (IE_name 0 rfl) IL_nil)) IE_int op_gt) (IEm_emit (IE_name 0 rfl))))) (IE_list IL_nil) op_eq)) IS_nil)))))))))))))
end
end Mine
end
section
open PySem PySem.W PyProof.Rows PySem.W.X
set_option maxHeartbeats 0
namespace Mine
theorem den_well {P : Params} {g : Gh} {h : Heap} : ∀ {ns : List Int} {vs : List Value}, WellAll P h vs (ofPys (ns.map PyData.int)) → DenAll g h vs (ns.map .int)
  | [], _, W => by
    simp only [List.map_nil, ofPys] at W
    cases W; exact .nil
  | n :: ns, _, W => by
    simp only [List.map_cons, ofPys, ofPy] at W
    cases W with
    | cons a r =>
      cases a
      exact .cons (.int _ _) (den_well r)
theorem den_script {P : Params} {h : Heap} {a : Addr} {ns : List Int} (W : Well P h (.ref a) (ofPy (.list (ns.map PyData.int)))) : Den g00 h (.ref a) (.lst (ns.map .int)) := by
  simp only [ofPy] at W
  cases W with
  | list e r => exact .lst (n := 0) e (fun q => q) (den_well r)
theorem tabAt.up {c P : Addr} {g : Gh} {h : Heap} (x : tabAt c P g h) (b : List (Option Addr)) (B : Addr → Prop) (h1 : ¬ B c) (h2 : ¬ B P) : tabAt c P ⟨g.rho, b, fun b => g.mu b ∨ B b⟩ h :=
  ⟨x.1, fun q => q.elim x.2.1 h1, fun q => q.elim x.2.2.1 h2, x.2.2.2⟩
theorem tabAt.lt1 {c P : Addr} {g : Gh} {h : Heap} (x : tabAt c P g h) : c < h.objs.size := by
  obtain ⟨⟨o, vs, file, tf, flags, tg, inF, text, tt, e, r⟩, _⟩ := x
  exact Heap.lt_size e
theorem tabAt.lt2 {c P : Addr} {g : Gh} {h : Heap} (x : tabAt c P g h) : P < h.objs.size := by
  obtain ⟨_, _, _, ps, t, e⟩ := x
  exact Heap.lt_size e
theorem addr_of {a b : Addr} (h : some (Value.ref a) = some (Value.ref b)) : a = b := by cases h; rfl
theorem join1 (hP : ∀ ns : List Int, ns.length ≤ 63 → ∃ al, p_law [.lst (ns.map .int)] [] = some (.bool true, al)) : PySem.Challenge.rw_ph0075_01.Holds := by
  w_on
  refine holds_law (by kernel_rfl) fun said => ?_
  refine holds_open (q := kview) (loose := ["_Accumulator", "_filemode_table"]) (Xt := fun s => xlAt kview klv s && recOk (RowW.records PySem.Challenge.rw_ph0075_01.row.toRowW) s) (XP := XL kview klv) (Yf := Hook.obs kH) (Ya := Hook.val kH) (YP := Hook.says kH) (N := 2516) kleft (Hook.of kH) (Hook.keeps kH) (fun s e => xl_of s (Bool.and_eq_true_iff.mp e).1) XL.keeps (by rfl) (by rfl) (by rfl) (fun s e => recFacts_of (Bool.and_eq_true_iff.mp e).2) (by rfl) (by first | assumption | decide +kernel) (by decide +kernel) ⟨rfl, rfl, rfl, rfl, rfl, by decide +kernel⟩ ?hw ?hc
  case hw => w_witness2
  intro w s0 s1 mg mb G Y fa o pm cd doc dV kV ho hd hcd hD hmg hg args vals as hpre hlay hrd hwl hlo
  have KX := km_in_of Y
  have KT := km_tabs_of Y
  refine Ground.open G ?_
  intro T B D TE TW
  clear hd hcd hD
  wrow_args hpre hlay hrd hwl hlo
  clear G
  rename_i ns hs hlay0 hL1 hr1 hl2 w4 w3 la vs wl hL ra w1x r0 hI hrA hc1 hc2
  have e1 : mg "law" = some (.ref 200) := mg_of KX T.g (by kernel_rfl)
  have e2 : (200 : Addr) = fa := addr_of (e1.symm.trans hmg)
  subst e2
  obtain ⟨h0, hq, hlast⟩ := trim s1.heap ⟨_, _, ho⟩
  have hk : ∀ b o, s1.heap.get? b = some o → h0.get? b = some o := fun b o e => (hq b).trans e
  have t63 := KT 63 (.head _)
  have t70 := KT 70 (.tail _ (.head _))
  have tab1 : tabAt 67 63 g00 h0 := ⟨(codeHd_of_K KX (by kernel_rfl)).keeps hk, (fun q => q), (fun q => q), #[], by trivial, hk _ _ t63⟩
  have tab2 : tabAt 74 70 g00 h0 := ⟨(codeHd_of_K KX (by kernel_rfl)).keeps hk, (fun q => q), (fun q => q), #[], by trivial, hk _ _ t70⟩
  obtain ⟨bm, ob, b1, b2, b3, b4, b5, b6⟩ := T.bmain
  have gt : mainGlobals ∉ ([63, 70] : List Addr) ∧ builtinsNs ∉ ([63, 70] : List Addr) ∧ cStatics ∉ ([63, 70] : List Addr) := by decide
  have tn : ∀ P ∈ ([63, 70] : List Addr), ∃ o, h0.get? P = some o ∧ o.cls = .none := by
    intro P hP
    rcases List.mem_cons.mp hP with rfl | hP
    · exact ⟨_, hk _ _ t63, rfl⟩
    · rcases List.mem_cons.mp hP with rfl | hP
      · exact ⟨_, hk _ _ t70, rfl⟩
      · cases hP
  let c := mkCx PySem.Challenge.rw_ph0075_01.row.prog w h0 s1.os 101 67 63 74 70 mg mb (T.g.keeps hk) (T.b.keeps hk) (T.nolimit.keeps hk) hlast gt (fun P hP o e => let ⟨o', e', hc⟩ := tn P hP; by rw [e] at e'; cases e'; exact hc)
  have O : Ok1 c w := {
    KX := fun a o e => hk _ _ (KX a o e)
    tabs := rfl
    C := rfl
    prog := rfl
    mb := T.builtins
    tpu := fun g h b B x hB => ⟨x.1.up b B (fun q => Nat.lt_irrefl _ (Nat.lt_of_lt_of_le tab1.lt1 (hB _ q))) (fun q => Nat.lt_irrefl _ (Nat.lt_of_lt_of_le tab1.lt2 (hB _ q))), x.2.up b B (fun q => Nat.lt_irrefl _ (Nat.lt_of_lt_of_le tab2.lt1 (hB _ q))) (fun q => Nat.lt_irrefl _ (Nat.lt_of_lt_of_le tab2.lt2 (hB _ q)))⟩
    T1 := mkCx_T1 tab1 (by decide) (by decide)
    T2 := mkCx_T2 tab2 (by decide) (by decide)
    bm := ⟨bm, b1, (fun q => by
      obtain ⟨o', e', hc⟩ := tn bm q
      rw [hk _ _ b3] at e'; cases e'
      rw [b4] at hc; cases hc), b2, ob, hk _ _ b3, b4, b5, b6⟩ }
  have W : Wd c [] g00 s1 := wd0 hq (fun P hP => tn P hP) ⟨tab1.go (fun b o _ e => (hq b).symm.trans e) (fun _ _ _ q => q), tab2.go (fun b o _ e => (hq b).symm.trans e) (fun _ _ _ q => q)⟩ rfl (by rw [hg]; exact .empty)
  have hlen : ns.length ≤ 63 := by omega
  obtain ⟨al, hp⟩ := hP ns hlen
  refine (f_law O).2 callerA s1 [] g00 [.ref la] [.lst (ns.map .int)] (.bool true) al ⟨by decide +kernel, by decide +kernel, rfl, ⟨[], rfl⟩, rfl⟩ W rfl (.cons (den_script w1x) .nil) hp _ _ ?_
  intro v s' g' W' _ dn _
  cases dn
  refine ⟨.inl ⟨_, _, [], rfl, fun _ => rfl, ReadsW.bool true, ?_, fun _ => ⟨List.nodup_nil, fun _ hm => nomatch hm⟩⟩, oldk_of hq W'.old, W'.os, W'.gens⟩
  first | rfl | wrow_post
end Mine
end
section
open PySem PySem.W
set_option autoImplicit false
namespace Mine
noncomputable def dP (p : Int × Nat) : D := .tup [.int p.1, dS [p.2]]
noncomputable def pick (c : Int → Bool) (t : List (Int × Nat)) (z : Nat) : Nat := ((t.find? fun p => c p.1).map (·.2)).getD z
noncomputable abbrev aT : D → MS → Option MS := fun d σ => match unD [] d with | some l => if l.length = 2 then some (wrs [4, 5] l σ) else none | none => none
noncomputable abbrev fmC (m i : Int) (x : Int) : Bool := if i = 0 then Builtin.bitAnd m 61440 == x else Builtin.bitAnd m x == x
theorem fm_b0 {m i : Int} {tab : D} {al : List Acc} {perm : List D} {p : Int × Nat} (hp : perm.length < 1000000) :
    b_filemode_0 ⟨[some (.int m), some (.box 0), some (.int i), some tab, some (.int p.1), some (dS [p.2])], al, [perm]⟩ =
      if fmC m i p.1 then some (.brk, ⟨[some (.int m), some (.box 0), some (.int i), some tab, some (.int p.1), some (dS [p.2])], al, [perm ++ [dS [p.2]]]⟩)
      else some (.next, ⟨[some (.int m), some (.box 0), some (.int i), some tab, some (.int p.1), some (dS [p.2])], al, [perm]⟩) := by
  unfold b_filemode_0 fmC
  have h0 : t_filemode_0 ⟨[some (.int m), some (.box 0), some (.int i), some tab, some (.int p.1), some (dS [p.2])], al, [perm]⟩ = some (i == 0, ⟨[some (.int m), some (.box 0), some (.int i), some tab, some (.int p.1), some (dS [p.2])], al, [perm]⟩) := rfl
  have h1 : t_filemode_1 ⟨[some (.int m), some (.box 0), some (.int i), some tab, some (.int p.1), some (dS [p.2])], al, [perm]⟩ = some (Builtin.bitAnd m 61440 == p.1, ⟨[some (.int m), some (.box 0), some (.int i), some tab, some (.int p.1), some (dS [p.2])], al, [perm]⟩) := rfl
  have h2 : t_filemode_2 ⟨[some (.int m), some (.box 0), some (.int i), some tab, some (.int p.1), some (dS [p.2])], al, [perm]⟩ = some (Builtin.bitAnd m p.1 == p.1, ⟨[some (.int m), some (.box 0), some (.int i), some tab, some (.int p.1), some (dS [p.2])], al, [perm]⟩) := rfl
  have ha := app_ev (e := rd 5) (i := 1) (k := 0) (σ := ⟨[some (.int m), some (.box 0), some (.int i), some tab, some (.int p.1), some (dS [p.2])], al, [perm]⟩) rfl rfl rfl hp
  have key : ∀ (c : Bool) (t : Mx Bool) (A : Mx Fl) (σ σ2 : MS), t σ = some (c, σ) → A σ = some (.next, σ2) → sq (bd t fun x => if x then sq A (sq (rt .brk) (rt .next)) else rt .next) (rt .next) σ = if c then some (.brk, σ2) else some (.next, σ) := by
    intro c t A σ σ2 e1 e2
    cases c with
    | true => exact sq_brk (by rw [if_ev e1, if_pos rfl, sq_next e2]; rfl)
    | false => exact sq_next (by rw [if_ev e1, if_neg (by decide)]; rfl)
  rw [sq_rt, if_ev h0]
  by_cases hi : i = 0
  · subst hi
    rw [if_pos (show ((0 : Int) == 0) = true from rfl), if_pos rfl]
    exact key _ _ _ _ _ h1 ha
  · rw [if_neg (by simpa using hi), if_neg hi]
    exact key _ _ _ _ _ h2 ha
theorem fm_o0 {m i : Int} {tab : D} {b c : Option D} {al : List Acc} {perm : List D} (hp : perm.length < 1000000) :
    o_filemode_0 ⟨[some (.int m), some (.box 0), some (.int i), some tab, b, c], al, [perm]⟩ = some (.next, ⟨[some (.int m), some (.box 0), some (.int i), some tab, b, c], al, [perm ++ [dS [if i = 0 then 63 else 45]]]⟩) := by
  unfold o_filemode_0
  have h0 : t_filemode_3 ⟨[some (.int m), some (.box 0), some (.int i), some tab, b, c], al, [perm]⟩ = some (i == 0, ⟨[some (.int m), some (.box 0), some (.int i), some tab, b, c], al, [perm]⟩) := rfl
  have q : ("?" : Str) = S [63] := by decide +kernel
  have q2 : ("-" : Str) = S [45] := by decide +kernel
  unfold x_filemode_2 x_filemode_3
  rw [sq_rt, if_ev h0, sq_rt, sq_rt, q, q2]
  by_cases hi : i = 0
  · subst hi
    rw [if_pos (show ((0 : Int) == 0) = true from rfl), if_pos rfl]
    exact app_ev (e := rt (dS [63])) (i := 1) (k := 0) (σ := ⟨[some (.int m), some (.box 0), some (.int 0), some tab, b, c], al, [perm]⟩) rfl rfl rfl hp
  · rw [if_neg (by simpa using hi), if_neg hi]
    exact app_ev (e := rt (dS [45])) (i := 1) (k := 0) (σ := ⟨[some (.int m), some (.box 0), some (.int i), some tab, b, c], al, [perm]⟩) rfl rfl rfl hp
theorem fm_in {m i : Int} {tab : D} {al : List Acc} {perm : List D} (hp : perm.length < 1000000) : ∀ (t : List (Int × Nat)) (b c : Option D), ∃ b' c', loopM aT b_filemode_0 o_filemode_0 (t.map dP) ⟨[some (.int m), some (.box 0), some (.int i), some tab, b, c], al, [perm]⟩ =
    some (.next, ⟨[some (.int m), some (.box 0), some (.int i), some tab, b', c'], al, [perm ++ [dS [pick (fmC m i) t (if i = 0 then 63 else 45)]]]⟩)
  | [], b, c => ⟨b, c, fm_o0 hp⟩
  | p :: t, b, c => by
    have h1 : aT (dP p) ⟨[some (.int m), some (.box 0), some (.int i), some tab, b, c], al, [perm]⟩ = some ⟨[some (.int m), some (.box 0), some (.int i), some tab, some (.int p.1), some (dS [p.2])], al, [perm]⟩ := rfl
    have h2 := fm_b0 (m := m) (i := i) (tab := tab) (al := al) (perm := perm) (p := p) hp
    cases hc : fmC m i p.1 with
    | true =>
      rw [hc, if_pos rfl] at h2
      refine ⟨some (.int p.1), some (dS [p.2]), (loop_brk h1 h2).trans ?_⟩
      unfold pick
      rw [List.find?_cons_of_pos (by exact hc)]
      rfl
    | false =>
      rw [hc, if_neg (by decide)] at h2
      obtain ⟨b', c', h3⟩ := fm_in hp t (some (.int p.1)) (some (dS [p.2]))
      refine ⟨b', c', (loop_next h1 h2).trans (h3.trans ?_)⟩
      unfold pick
      rw [List.find?_cons_of_neg (by rw [hc]; decide)]
noncomputable def tabs : List (List (Int × Nat)) := [[(40960, 108), (49152, 115), (32768, 45), (24576, 98), (16384, 100), (8192, 99), (4096, 112)], [(256, 114)], [(128, 119)], [(2112, 115), (2048, 83), (64, 120)],
  [(32, 114)], [(16, 119)], [(1032, 115), (1024, 83), (8, 120)], [(4, 114)], [(2, 119)], [(513, 116), (512, 84), (1, 120)]]
theorem dTable_eq : dTable = .tup (tabs.map fun t => .tup (t.map dP)) := by
  have e1 : ("l" : Str) = S [108] := by decide +kernel
  have e2 : ("s" : Str) = S [115] := by decide +kernel
  have e3 : ("-" : Str) = S [45] := by decide +kernel
  have e4 : ("b" : Str) = S [98] := by decide +kernel
  have e5 : ("d" : Str) = S [100] := by decide +kernel
  have e6 : ("c" : Str) = S [99] := by decide +kernel
  have e7 : ("p" : Str) = S [112] := by decide +kernel
  have e8 : ("r" : Str) = S [114] := by decide +kernel
  have e9 : ("w" : Str) = S [119] := by decide +kernel
  have e10 : ("S" : Str) = S [83] := by decide +kernel
  have e11 : ("x" : Str) = S [120] := by decide +kernel
  have e12 : ("t" : Str) = S [116] := by decide +kernel
  have e13 : ("T" : Str) = S [84] := by decide +kernel
  unfold dTable dT
  rw [e1, e2, e3, e4, e5, e6, e7, e8, e9, e10, e11, e12, e13]
  rfl
noncomputable abbrev aO : D → MS → Option MS := fun d σ => match unD [] d with | some l => if l.length = 2 then some (wrs [2, 3] l σ) else none | none => none
noncomputable def fmRow (m : Int) : Nat → List (List (Int × Nat)) → List Nat
  | _, [] => []
  | i, t :: l => pick (fmC m (i : Int)) t (if (i : Int) = 0 then 63 else 45) :: fmRow m (i + 1) l
theorem fm_out {m : Int} {al : List Acc} : ∀ (l : List (List (Int × Nat))) (i : Nat) (perm : List Nat) (a b c d : Option D), perm.length + l.length < 1000000 → ∃ a' b' c' d', loopM aO b_filemode_1 o_filemode_1 (enumL i (l.map fun t => .tup (t.map dP))) ⟨[some (.int m), some (.box 0), a, b, c, d], al, [perm.map fun x => dS [x]]⟩ =
    some (.next, ⟨[some (.int m), some (.box 0), a', b', c', d'], al, [(perm ++ fmRow m i l).map fun x => dS [x]]⟩)
  | [], i, perm, a, b, c, d, _ => ⟨a, b, c, d, by simp [enumL, fmRow]; rfl⟩
  | t :: l, i, perm, a, b, c, d, h => by
    have h1 : aO (.tup [.int (i : Nat), .tup (t.map dP)]) ⟨[some (.int m), some (.box 0), a, b, c, d], al, [perm.map fun x => dS [x]]⟩ = some ⟨[some (.int m), some (.box 0), some (.int (i : Nat)), some (.tup (t.map dP)), c, d], al, [perm.map fun x => dS [x]]⟩ := rfl
    obtain ⟨c', d', h2⟩ := fm_in (m := m) (i := (i : Nat)) (tab := .tup (t.map dP)) (al := al) (perm := perm.map fun x => dS [x]) (by simp at h ⊢; omega) t c d
    have h3 : b_filemode_1 ⟨[some (.int m), some (.box 0), some (.int (i : Nat)), some (.tup (t.map dP)), c, d], al, [perm.map fun x => dS [x]]⟩ = some (.next, ⟨[some (.int m), some (.box 0), some (.int (i : Nat)), some (.tup (t.map dP)), c', d'], al, [(perm ++ [pick (fmC m (i : Nat)) t (if (i : Int) = 0 then 63 else 45)]).map fun x => dS [x]]⟩) := by
      unfold b_filemode_1
      rw [sq_rt]
      have e : i_filemode_0 ⟨[some (.int m), some (.box 0), some (.int (i : Nat)), some (.tup (t.map dP)), c, d], al, [perm.map fun x => dS [x]]⟩ = some (t.map dP, ⟨[some (.int m), some (.box 0), some (.int (i : Nat)), some (.tup (t.map dP)), c, d], al, [perm.map fun x => dS [x]]⟩) := by
        unfold i_filemode_0
        rw [bd_ev (rd_ev rfl)]
        have : itM true (.tup (t.map dP)) = some (t.map dP) := by
          unfold itM seqD
          dsimp only
          rw [if_pos]
          unfold allUn
          simp only [Bool.not_true, Bool.false_or, List.all_eq_true]
          intro x hx
          obtain ⟨p, _, rfl⟩ := List.mem_map.mp hx
          rfl
        rw [this]; rfl
      rw [bd_ev e]
      refine h2.trans ?_
      simp
    obtain ⟨a4, b4, c4, d4, h4⟩ := fm_out l (i + 1) (perm ++ [pick (fmC m (i : Nat)) t (if (i : Int) = 0 then 63 else 45)]) (some (.int (i : Nat))) (some (.tup (t.map dP))) c' d' (by simp at h ⊢; omega)
    refine ⟨a4, b4, c4, d4, (loop_next h1 h3).trans (h4.trans ?_)⟩
    simp [fmRow]
end Mine
end
section
open PySem PySem.W
set_option autoImplicit false
namespace Mine
theorem join_eq (sep : Str) (l : List Str) : Txt.join sep l = Str.join sep l := eq_of_beq (PyProof.Rows.join_plain_closes sep l)
theorem S_nil : ("" : Str) = S [] := by decide +kernel
theorem sjoin_S : ∀ l : List (List Nat), Str.join (S []) (l.map S) = S l.flatten
  | [] => rfl
  | [x] => by simp [Str.join]
  | x :: y :: r => by
    have ih := sjoin_S (y :: r)
    show S x ++ S [] ++ Str.join (S []) (S y :: r.map S) = _
    rw [show S y :: r.map S = (y :: r).map S from rfl, ih, S_append, S_append]
    simp
theorem join_S (l : List (List Nat)) : Txt.join "" (l.map S) = S l.flatten := by rw [join_eq, S_nil, sjoin_S]
theorem join_ones (l : List Nat) : Txt.join "" (l.map fun x => S [x]) = S l := by
  have := join_S (l.map fun x => [x])
  rw [List.map_map] at this
  rw [show (fun x => S [x]) = S ∘ fun x => [x] from rfl, this]
  congr 1
  clear this
  induction l with
  | nil => rfl
  | cons a l ih => simp [ih]
theorem strL_S : ∀ l : List (List Nat), strL (l.map dS) = some (l.map S)
  | [] => rfl
  | x :: r => by simp [strL, strL_S r]
theorem strL_ones (l : List Nat) : strL (l.map fun x => dS [x]) = some (l.map fun x => S [x]) := by
  have := strL_S (l.map fun x => [x])
  rw [List.map_map, List.map_map] at this
  exact this
theorem joinM_ones {d : D} {l : List Nat} {σ : MS} (hb : boxL σ.b d = some (l.map fun x => dS [x])) (hz : l.length ≤ 1000000) : joinM [.str "", d] σ = some (dS l, σ) := by
  unfold joinM
  simp only [hb, strL_ones]
  rw [if_pos, join_ones]
  have h0 : (("" : Str)).length = 0 := by decide +kernel
  rw [h0]
  have : ((l.map fun x => S [x]).map (·.length)).sum = l.length := by
    clear hb hz
    induction l with
    | nil => rfl
    | cons a l ih => simp only [List.map_cons, List.sum_cons, ih, S_length, List.length_cons, List.length_nil]; omega
  rw [this]; omega
theorem fmRow_len (m : Int) : ∀ (l : List (List (Int × Nat))) (i : Nat), (fmRow m i l).length = l.length
  | [], _ => rfl
  | _ :: l, i => by simp [fmRow, fmRow_len m l]
theorem sp_filemode (m : Int) (al : List Acc) : p_filemode [.int m] al = some (dS (fmRow m 0 tabs), al) := by
  obtain ⟨a, b, c, d, h⟩ := fm_out (m := m) (al := al) tabs 0 [] none none none none (by decide)
  have e1 : s_filemode_1 ⟨[some (.int m), some (.box 0), none, none, none, none], al, [[]]⟩ = some (.next, ⟨[some (.int m), some (.box 0), a, b, c, d], al, [([] ++ fmRow m 0 tabs).map fun x => dS [x]]⟩) := by
    unfold s_filemode_1 i_filemode_1
    rw [dTable_eq]
    exact h
  have hm : m_filemode ⟨[some (.int m), none, none, none, none, none], al, []⟩ = some (.ret (dS (fmRow m 0 tabs)), ⟨[some (.int m), some (.box 0), a, b, c, d], al, [([] ++ fmRow m 0 tabs).map fun x => dS [x]]⟩) := by
    unfold m_filemode
    rw [sq_next (σ' := ⟨[some (.int m), some (.box 0), none, none, none, none], al, [[]]⟩) rfl, sq_next e1, sq_rt]
    unfold s_filemode_2
    have e2 : x_filemode_4 ⟨[some (.int m), some (.box 0), a, b, c, d], al, [([] ++ fmRow m 0 tabs).map fun x => dS [x]]⟩ = some (dS (fmRow m 0 tabs), ⟨[some (.int m), some (.box 0), a, b, c, d], al, [([] ++ fmRow m 0 tabs).map fun x => dS [x]]⟩) := by
      unfold x_filemode_4
      rw [bd_ev (a := .str "") (σ' := ⟨[some (.int m), some (.box 0), a, b, c, d], al, [([] ++ fmRow m 0 tabs).map fun x => dS [x]]⟩) rfl]
      rw [if_pos (show isStr (D.str "") = true from rfl)]
      rw [bd_ev (a := [.box 0]) (σ' := ⟨[some (.int m), some (.box 0), a, b, c, d], al, [([] ++ fmRow m 0 tabs).map fun x => dS [x]]⟩) rfl]
      exact joinM_ones (by simp [boxL]) (by rw [fmRow_len]; decide)
    rw [bd_ev e2]; rfl
  exact fnP_ret (n := 1) (N := 6) (ds := [.int m]) rfl hm rfl
end Mine
end
section
open PySem PySem.W
set_option autoImplicit false
namespace Mine
noncomputable def tch (t : Nat) : Nat := ([63, 112, 99, 63, 100, 63, 98, 63, 45, 63, 108, 63, 115, 63, 63, 63] : List Nat).getD t 63
noncomputable def xtab (q : Nat) : List Nat := if q < 2 then [45, 120, 83, 115] else [45, 120, 84, 116]
noncomputable def three (q r a : Nat) : List Nat := [if 3 < r then 114 else 45, if r / 2 % 2 = 1 then 119 else 45, (xtab q).getD (r % 2 + a * 2) 45]
noncomputable def rgt (M q : Nat) : Nat := M / 8 ^ (2 - q) % 8
noncomputable def abv (M q : Nat) : Nat := M / 2 ^ (11 - q) % 2
noncomputable def row (M : Nat) : List Nat := tch (M / 4096) :: (three 0 (rgt M 0) (abv M 0) ++ three 1 (rgt M 1) (abv M 1) ++ three 2 (rgt M 2) (abv M 2))
theorem bitAnd_nat (M x : Nat) : Builtin.bitAnd (M : Int) (x : Int) = ((M &&& x : Nat) : Int) := by
  unfold Builtin.bitAnd
  have h1 : decide ((0 : Int) ≤ (M : Int)) = true := by simp
  have h2 : decide ((0 : Int) ≤ (x : Int)) = true := by simp
  rw [h1, h2]; simp
theorem land_bit (M k : Nat) : M &&& 2 ^ k = (if M / 2 ^ k % 2 = 1 then 2 ^ k else 0) := by
  apply Nat.eq_of_testBit_eq
  intro j
  rw [Nat.testBit_and, Nat.testBit_two_pow]
  by_cases h : M / 2 ^ k % 2 = 1
  · rw [if_pos h, Nat.testBit_two_pow]
    by_cases e : k = j
    · subst e; simp [Nat.testBit_eq_decide_div_mod_eq, h]
    · simp [e]
  · rw [if_neg h, Nat.zero_testBit]
    by_cases e : k = j
    · subst e; simp only [Nat.testBit_eq_decide_div_mod_eq, h, decide_false, Bool.false_and]
    · simp [e]
theorem int_beq (a b : Nat) : ((a : Int) == (b : Int)) = decide (a = b) := by
  by_cases h : a = b
  · subst h; simp
  · have : ¬ (a : Int) = (b : Int) := by omega
    rw [decide_eq_false h]; exact beq_eq_false_iff_ne.mpr this
theorem land_top (M : Nat) (h : M < 65536) : M &&& 61440 = M / 4096 * 4096 := by
  have e : (61440 : Nat) = (2 ^ 15 ||| 2 ^ 14) ||| (2 ^ 13 ||| 2 ^ 12) := by decide
  rw [e, Nat.and_or_distrib_left, Nat.and_or_distrib_left, Nat.and_or_distrib_left, land_bit, land_bit, land_bit, land_bit]
  have hh : M / 4096 < 16 := by omega
  have a1 : M / 2 ^ 15 % 2 = M / 4096 / 8 % 2 := by rw [Nat.div_div_eq_div_mul]
  have a2 : M / 2 ^ 14 % 2 = M / 4096 / 4 % 2 := by rw [Nat.div_div_eq_div_mul]
  have a3 : M / 2 ^ 13 % 2 = M / 4096 / 2 % 2 := by rw [Nat.div_div_eq_div_mul]
  have a4 : M / 2 ^ 12 % 2 = M / 4096 % 2 := by omega
  rw [a1, a2, a3, a4]
  generalize M / 4096 = t at hh
  revert t
  decide
theorem pick_top (M : Nat) (h : M < 65536) : pick (fmC (M : Int) 0) [(40960, 108), (49152, 115), (32768, 45), (24576, 98), (16384, 100), (8192, 99), (4096, 112)] 63 = tch (M / 4096) := by
  have e : ∀ x, fmC (M : Int) 0 x = (((M / 4096 * 4096 : Nat) : Int) == x) := by
    intro x
    unfold fmC
    rw [if_pos rfl]
    have := bitAnd_nat M 61440
    rw [land_top M h] at this
    rw [← this]; rfl
  have e' : fmC (M : Int) 0 = fun x => (((M / 4096 * 4096 : Nat) : Int) == x) := funext e
  rw [e']
  have hh : M / 4096 < 16 := by omega
  generalize M / 4096 = t at hh
  revert t
  decide
theorem fm_bit (M k i x : Nat) (hi : i ≠ 0) (hx : x = 2 ^ k) : fmC (M : Int) (i : Int) (x : Int) = decide (M / 2 ^ k % 2 = 1) := by
  unfold fmC
  rw [if_neg (by omega), hx, bitAnd_nat, land_bit, int_beq]
  have : 0 < 2 ^ k := Nat.two_pow_pos k
  by_cases h : M / 2 ^ k % 2 = 1
  · simp [h]
  · rw [if_neg h]
    have q : ¬ (0 = 2 ^ k) := by omega
    simp only [h, q]
theorem fm_two (M a b i x : Nat) (hi : i ≠ 0) (hor : 2 ^ a ||| 2 ^ b = x) (ha : 2 ^ a ≠ x) (hb : 2 ^ b ≠ x) (h0 : 0 ≠ x) : fmC (M : Int) (i : Int) (x : Int) = (decide (M / 2 ^ a % 2 = 1) && decide (M / 2 ^ b % 2 = 1)) := by
  unfold fmC
  rw [if_neg (by omega), bitAnd_nat, ← hor, Nat.and_or_distrib_left, land_bit, land_bit, hor, int_beq]
  by_cases h : M / 2 ^ a % 2 = 1 <;> by_cases h' : M / 2 ^ b % 2 = 1
  · rw [if_pos h, if_pos h', hor]; simp only [h, h', decide_true, Bool.and_true]
  · rw [if_pos h, if_neg h', Nat.or_zero]
    simp only [h, h', ha, decide_true, decide_false, Bool.and_false]
  · rw [if_neg h, if_pos h', Nat.zero_or]
    simp only [h, h', hb, decide_true, decide_false, Bool.false_and]
  · rw [if_neg h, if_neg h', Nat.or_zero]
    simp only [h, h', h0, decide_false, Bool.false_and]
theorem pk1 {c : Int → Bool} {x : Int} {a z : Nat} : pick c [(x, a)] z = if c x then a else z := by
  unfold pick
  cases h : c x
  · rw [List.find?_cons_of_neg (by simp [h])]; rfl
  · rw [List.find?_cons_of_pos (by simp [h])]; rfl
theorem pk3 {c : Int → Bool} {x y w : Int} {a b d z : Nat} : pick c [(x, a), (y, b), (w, d)] z = if c x then a else if c y then b else if c w then d else z := by
  cases h : c x
  · have : pick c [(x, a), (y, b), (w, d)] z = pick c [(y, b), (w, d)] z := by
      unfold pick
      rw [List.find?_cons_of_neg (by simp [h])]
    rw [this]
    cases h2 : c y
    · have : pick c [(y, b), (w, d)] z = pick c [(w, d)] z := by
        unfold pick
        rw [List.find?_cons_of_neg (by simp [h2])]
      rw [this, pk1]; rfl
    · unfold pick
      rw [List.find?_cons_of_pos (by simp [h2])]; rfl
  · unfold pick
    rw [List.find?_cons_of_pos (by simp [h])]; rfl
theorem b84 (M k : Nat) : M / (k * 4) % 2 = 1 ↔ 3 < M / k % 8 := by
  rw [← Nat.div_div_eq_div_mul, ← Nat.mod_mul_right_div_self]
  exact (by decide : ∀ r, r < 8 → (r / 4 = 1 ↔ 3 < r)) _ (Nat.mod_lt _ (by decide))
theorem b82 (M k : Nat) : M / (k * 2) % 2 = 1 ↔ M / k % 8 / 2 % 2 = 1 := by
  rw [← Nat.div_div_eq_div_mul, show M / k % 8 / 2 = M / k / 2 % 4 from Nat.mod_mul_right_div_self _ 2 4, Nat.mod_mod_of_dvd _ (by decide : 2 ∣ 4)]
theorem fm_row (M : Nat) (h : M < 65536) : fmRow (M : Int) 0 tabs = row M := by
  have b8 := fm_bit M 8 1 256 (by decide) rfl
  have b7 := fm_bit M 7 2 128 (by decide) rfl
  have b11 := fm_bit M 11 3 2048 (by decide) rfl
  have b6 := fm_bit M 6 3 64 (by decide) rfl
  have b116 := fm_two M 11 6 3 2112 (by decide) (by decide) (by decide) (by decide) (by decide)
  have b5 := fm_bit M 5 4 32 (by decide) rfl
  have b4 := fm_bit M 4 5 16 (by decide) rfl
  have b10 := fm_bit M 10 6 1024 (by decide) rfl
  have b3 := fm_bit M 3 6 8 (by decide) rfl
  have b103 := fm_two M 10 3 6 1032 (by decide) (by decide) (by decide) (by decide) (by decide)
  have b2 := fm_bit M 2 7 4 (by decide) rfl
  have b1 := fm_bit M 1 8 2 (by decide) rfl
  have b9 := fm_bit M 9 9 512 (by decide) rfl
  have b0 := fm_bit M 0 9 1 (by decide) rfl
  have b90 := fm_two M 9 0 9 513 (by decide) (by decide) (by decide) (by decide) (by decide)
  have tp := pick_top M h
  have x3 : ∀ (c : Int → Bool) (x y w : Int) (a b d : Nat) (s t : Nat), c y = decide (s = 1) → c w = decide (t = 1) → c x = (decide (s = 1) && decide (t = 1)) → s < 2 → t < 2 → pick c [(x, a), (y, b), (w, d)] 45 = ([45, d, b, a] : List Nat).getD (t + s * 2) 45 := by
    intro c x y w a b d s t e1 e2 e3 hs ht
    rw [pk3, e1, e2, e3]
    have : s = 0 ∨ s = 1 := by omega
    have : t = 0 ∨ t = 1 := by omega
    rcases ‹s = 0 ∨ s = 1› with rfl | rfl <;> rcases ‹t = 0 ∨ t = 1› with rfl | rfl <;> rfl
  have r1 : ∀ (c : Int → Bool) (x : Int) (a : Nat) (P Q : Prop) [Decidable P] [Decidable Q], c x = decide P → (P ↔ Q) → pick c [(x, a)] 45 = if Q then a else 45 := by
    intro c x a P Q _ _ e1 e2
    rw [pk1, e1]
    by_cases q : Q
    · rw [if_pos q, if_pos (by simpa using e2.mpr q)]
    · rw [if_neg q, if_neg (by simpa using fun z => q (e2.mp z))]
  have e1 := r1 _ _ 114 _ (3 < rgt M 0) b8 (b84 M 64)
  have e2 := r1 _ _ 119 _ (rgt M 0 / 2 % 2 = 1) b7 (b82 M 64)
  have e3 := x3 _ _ _ _ 115 83 120 _ _ b11 b6 b116 (by omega) (by omega)
  have e4 := r1 _ _ 114 _ (3 < rgt M 1) b5 (b84 M 8)
  have e5 := r1 _ _ 119 _ (rgt M 1 / 2 % 2 = 1) b4 (b82 M 8)
  have e6 := x3 _ _ _ _ 115 83 120 _ _ b10 b3 b103 (by omega) (by omega)
  have e7 := r1 _ _ 114 _ (3 < rgt M 2) b2 (b84 M 1)
  have e8 := r1 _ _ 119 _ (rgt M 2 / 2 % 2 = 1) b1 (b82 M 1)
  have e9 := x3 _ _ _ _ 116 84 120 _ _ b9 b0 b90 (by omega) (by omega)
  have f3 : rgt M 0 % 2 + abv M 0 * 2 = M / 2 ^ 6 % 2 + M / 2 ^ 11 % 2 * 2 := by unfold rgt abv; rw [Nat.mod_mod_of_dvd _ (by decide : 2 ∣ 8)] <;> rfl
  have f6 : rgt M 1 % 2 + abv M 1 * 2 = M / 2 ^ 3 % 2 + M / 2 ^ 10 % 2 * 2 := by unfold rgt abv; rw [Nat.mod_mod_of_dvd _ (by decide : 2 ∣ 8)] <;> rfl
  have f9 : rgt M 2 % 2 + abv M 2 * 2 = M / 2 ^ 0 % 2 + M / 2 ^ 9 % 2 * 2 := by unfold rgt abv; rw [Nat.mod_mod_of_dvd _ (by decide : 2 ∣ 8)] <;> rfl
  unfold row three xtab
  rw [f3, f6, f9]
  unfold tabs
  simp only [fmRow]
  show [_, _, _, _, _, _, _, _, _, _] = [_, _, _, _, _, _, _, _, _, _]
  refine congr (congrArg List.cons tp) (congr (congrArg List.cons e1) (congr (congrArg List.cons e2) (congr (congrArg List.cons e3) (congr (congrArg List.cons e4) (congr (congrArg List.cons e5) (congr (congrArg List.cons e6) (congr (congrArg List.cons e7) (congr (congrArg List.cons e8) (congr (congrArg List.cons e9) rfl)))))))))
end Mine
end
section
open PySem PySem.W
set_option autoImplicit false
namespace Mine
theorem fd (a b : Nat) : (a : Int).fdiv (b : Int) = ((a / b : Nat) : Int) := by
  rw [Int.fdiv_eq_ediv_of_nonneg _ (by omega)]; rfl
theorem fmd (a b : Nat) : (a : Int).fmod (b : Int) = ((a % b : Nat) : Int) := by
  rw [Int.fmod_eq_emod_of_nonneg _ (by omega)]; rfl
theorem c_minus : ("-" : Str) = S [45] := by decide +kernel
theorem c_r : ("r" : Str) = S [114] := by decide +kernel
theorem c_w : ("w" : Str) = S [119] := by decide +kernel
theorem c_xs : ("-xSs" : Str) = S [45, 120, 83, 115] := by decide +kernel
theorem c_xt : ("-xTt" : Str) = S [45, 120, 84, 116] := by decide +kernel
theorem c_ty : ("?pc?d?b?-?l?s???" : Str) = S [63, 112, 99, 63, 100, 63, 98, 63, 45, 63, 108, 63, 115, 63, 63, 63] := by decide +kernel
theorem getD_some {l : List Nat} {i z : Nat} (h : i < l.length) : l[i]? = some (l.getD i z) := by
  rw [List.getD_eq_getElem?_getD, List.getElem?_eq_getElem h]; rfl
theorem rgt_int (M q : Nat) (hq : q < 3) : ((M : Int).fdiv (8 ^ ((2 : Int) - q).toNat)).fmod 8 = ((rgt M q : Nat) : Int) := by
  have e : ((2 : Int) - q).toNat = 2 - q := by omega
  have e2 : (8 : Int) ^ (2 - q) = ((8 ^ (2 - q) : Nat) : Int) := by simp
  rw [e, e2, fd]
  exact fmd _ 8
theorem abv_int (M q : Nat) (hq : q < 3) : ((M : Int).fdiv (2 ^ ((11 : Int) - q).toNat)).fmod 2 = ((abv M q : Nat) : Int) := by
  have e : ((11 : Int) - q).toNat = 11 - q := by omega
  have e2 : (2 : Int) ^ (11 - q) = ((2 ^ (11 - q) : Nat) : Int) := by simp
  rw [e, e2, fd]
  exact fmd _ 2
theorem rgt_lt (M q : Nat) : rgt M q < 8 := Nat.mod_lt _ (by decide)
theorem abv_lt (M q : Nat) : abv M q < 2 := Nat.mod_lt _ (by decide)
theorem row_turn (M q : Nat) (hq : q < 3) (y : List Nat) (x : Option D) (al : List Acc) (hy : y.length ≤ 1000) : b_law_row_0 ⟨[some (.int M), some (dS y), some (.int q), x], al, []⟩ =
    some (.next, ⟨[some (.int M), some (dS (y ++ three q (rgt M q) (abv M q))), some (.int q), some (.int (rgt M q))], al, []⟩) := by
  have hr := rgt_int M q hq
  have ha := abv_int M q hq
  have hr8 : rgt M q < 8 := Nat.mod_lt _ (by decide)
  have ha2 : abv M q < 2 := Nat.mod_lt _ (by decide)
  unfold b_law_row_0
  have s1 : x_law_row_1 ⟨[some (.int M), some (dS y), some (.int q), x], al, []⟩ = some (.int (rgt M q), ⟨[some (.int M), some (dS y), some (.int q), x], al, []⟩) := by
    rw [← hr]
    have := lt3 q hq
    rcases this with rfl | rfl | rfl <;> rfl
  rw [sq_next (σ' := ⟨[some (.int M), some (dS y), some (.int q), some (.int (rgt M q))], al, []⟩) (by rw [bd_ev s1]; rfl)]
  generalize rgt M q = r at *
  have v2 : x_law_row_2 ⟨[some (.int M), some (dS y), some (.int q), some (.int r)], al, []⟩ = some (dS [if 3 < r then 114 else 45, if r / 2 % 2 = 1 then 119 else 45], ⟨[some (.int M), some (dS y), some (.int q), some (.int r)], al, []⟩) := by
    clear hr ha s1
    unfold x_law_row_2
    rw [c_minus, c_r, c_w]
    have := lt8 r hr8
    rcases this with rfl | rfl | rfl | rfl | rfl | rfl | rfl | rfl <;> rfl
  refine (sq_next (aug_ev (i := 1) (σ := ⟨[some (.int M), some (dS y), some (.int q), some (.int r)], al, []⟩) rfl v2 (by simp; omega))).trans ?_
  have v3 : x_law_row_3 ⟨[some (.int M), some (dS (y ++ [if 3 < r then 114 else 45, if r / 2 % 2 = 1 then 119 else 45])), some (.int q), some (.int r)], al, []⟩ = some (dS [(xtab q).getD (r % 2 + abv M q * 2) 45], ⟨[some (.int M), some (dS (y ++ [if 3 < r then 114 else 45, if r / 2 % 2 = 1 then 119 else 45])), some (.int q), some (.int r)], al, []⟩) := by
    have e : x_law_row_3 ⟨[some (.int M), some (dS (y ++ [if 3 < r then 114 else 45, if r / 2 % 2 = 1 then 119 else 45])), some (.int q), some (.int r)], al, []⟩ =
        (itemS (S (xtab q)) ((r : Int).fmod 2 + ((M : Int).fdiv (2 ^ ((11 : Int) - q).toNat)).fmod 2 * 2)).map fun d => (d, ⟨[some (.int M), some (dS (y ++ [if 3 < r then 114 else 45, if r / 2 % 2 = 1 then 119 else 45])), some (.int q), some (.int r)], al, []⟩) := by
      unfold x_law_row_3
      rw [c_xs, c_xt]
      have := lt3 q hq
      rcases this with rfl | rfl | rfl <;> rfl
    rw [e, ha]
    have e2 : (r : Int).fmod 2 = ((r % 2 : Nat) : Int) := fmd r 2
    have e3 : ((r % 2 : Nat) : Int) + ((abv M q : Nat) : Int) * 2 = ((r % 2 + abv M q * 2 : Nat) : Int) := by omega
    rw [e2, e3, itemS_nat (getD_some (z := 45) (by unfold xtab; split <;> simp <;> omega)) (by omega)]
    rfl
  rw [sq_rt]
  refine (aug_ev (i := 1) (σ := ⟨[some (.int M), some (dS (y ++ [if 3 < r then 114 else 45, if r / 2 % 2 = 1 then 119 else 45])), some (.int q), some (.int r)], al, []⟩) rfl v3 (by simp; omega)).trans ?_
  simp [wr, three]
theorem sp_row (M : Nat) (hM : M < 65536) (al : List Acc) : p_law_row [.int M] al = some (dS (row M), al) := by
  have e0 : s_law_row_0 ⟨[some (.int M), none, none, none], al, []⟩ = some (.next, ⟨[some (.int M), some (dS [tch (M / 4096)]), none, none], al, []⟩) := by
    unfold s_law_row_0
    have : x_law_row_0 ⟨[some (.int M), none, none, none], al, []⟩ = (itemS (S [63, 112, 99, 63, 100, 63, 98, 63, 45, 63, 108, 63, 115, 63, 63, 63]) ((M : Int).fdiv 4096)).map fun d => (d, ⟨[some (.int M), none, none, none], al, []⟩) := by
      unfold x_law_row_0
      rw [c_ty]; rfl
    have e2 : (M : Int).fdiv 4096 = ((M / 4096 : Nat) : Int) := fd M 4096
    rw [e2, itemS_nat (getD_some (z := 63) (by simp; omega)) (by omega)] at this
    rw [bd_ev this]
    rfl
  have t0 := row_turn M 0 (by decide) [tch (M / 4096)] none al (by simp)
  have t1 := row_turn M 1 (by decide) ([tch (M / 4096)] ++ three 0 (rgt M 0) (abv M 0)) (some (.int (rgt M 0))) al (by simp [three])
  have t2 := row_turn M 2 (by decide) ([tch (M / 4096)] ++ three 0 (rgt M 0) (abv M 0) ++ three 1 (rgt M 1) (abv M 1)) (some (.int (rgt M 1))) al (by simp [three])
  have e1 : s_law_row_1 ⟨[some (.int M), some (dS [tch (M / 4096)]), none, none], al, []⟩ = some (.next, ⟨[some (.int M), some (dS (row M)), some (.int 2), some (.int (rgt M 2))], al, []⟩) := by
    unfold s_law_row_1
    rw [bd_ev (a := [.int (0 : Nat), .int (1 : Nat), .int (2 : Nat)]) (σ' := ⟨[some (.int M), some (dS [tch (M / 4096)]), none, none], al, []⟩) rfl]
    rw [loop_next (σ1 := ⟨[some (.int M), some (dS [tch (M / 4096)]), some (.int (0 : Nat)), none], al, []⟩) rfl t0]
    rw [loop_next (σ1 := ⟨[some (.int M), some (dS ([tch (M / 4096)] ++ three 0 (rgt M 0) (abv M 0))), some (.int (1 : Nat)), some (.int (rgt M 0))], al, []⟩) rfl t1]
    rw [loop_next (σ1 := ⟨[some (.int M), some (dS ([tch (M / 4096)] ++ three 0 (rgt M 0) (abv M 0) ++ three 1 (rgt M 1) (abv M 1))), some (.int (2 : Nat)), some (.int (rgt M 1))], al, []⟩) rfl t2]
    rfl
  have hm : m_law_row ⟨[some (.int M), none, none, none], al, []⟩ = some (.ret (dS (row M)), ⟨[some (.int M), some (dS (row M)), some (.int 2), some (.int (rgt M 2))], al, []⟩) := by
    unfold m_law_row
    rw [sq_next e0, sq_next e1, sq_rt]
    rfl
  exact fnP_ret (n := 1) (N := 4) (ds := [.int M]) rfl hm rfl
theorem sp_file (M : Nat) (hM : M < 65536) (al : List Acc) : p_filemode [.int M] al = some (dS (row M), al) := by rw [sp_filemode, fm_row M hM]
end Mine
end
section
open PySem PySem.W
set_option autoImplicit false
namespace Mine
theorem cls_map {α : Type} (f : α → D) (g : α → D) (asg : D → MS → Option MS) (m : Mx (List D)) (P : MS → Prop) : ∀ (l : List α), (∀ a ∈ l, ∀ σ, P σ → ∃ σ1 σ2, asg (f a) σ = some σ1 ∧ m σ1 = some ([g a], σ2) ∧ P σ2) →
    ∀ σ, P σ → ∃ σ', clsM asg m (l.map f) σ = some (l.map g, σ') ∧ P σ'
  | [], _, σ, h => ⟨σ, rfl, h⟩
  | a :: l, st, σ, h => by
    obtain ⟨σ1, σ2, h1, h2, h3⟩ := st a (.head _) σ h
    obtain ⟨σ3, h4, h5⟩ := cls_map f g asg m P l (fun b hb => st b (.tail _ hb)) σ2 h3
    exact ⟨σ3, cls_cons h1 h2 h4, h5⟩
noncomputable def lowOne (b n : Int) : Nat := ((b + n).fmod 65536).toNat
theorem zipL_map : ∀ (l m : List Int), zipL (l.map .int) (m.map .int) = (l.zip m).map fun p => .tup [.int p.1, .int p.2]
  | [], _ => by simp [zipL]
  | _ :: _, [] => by simp [zipL]
  | a :: l, b :: m => by simp [zipL, zipL_map l m]
theorem low_int (b n : Int) : (b + n).fmod 65536 = ((lowOne b n : Nat) : Int) := by
  unfold lowOne
  have : 0 ≤ (b + n).fmod 65536 := Int.fmod_nonneg_of_pos _ (by decide)
  omega
theorem low_lt (b n : Int) : lowOne b n < 65536 := by
  have h1 : (b + n).fmod 65536 < 65536 := Int.fmod_lt_of_pos _ (by decide)
  have h2 := low_int b n
  omega
noncomputable abbrev dI (l : List Nat) : D := .lst (l.map fun (M : Nat) => D.int (M : Int))
noncomputable abbrev dCs (l : List Nat) : List D := l.map fun c => dS [c]
theorem eqD_ch (c k : Nat) (h : c < 1114112) (hk : k < 1114112) : eqD (dS [c]) (dS [k]) = some (decide (c = k)) := by
  have e1 : ∀ j, j < 1114112 → pyO (dS [j]) = some (.str (S [j])) := by
    intro j hj
    unfold pyO
    rw [if_pos]
    unfold PyData.strOk
    simp [S, hj]
  unfold eqD
  rw [e1 c h, e1 k hk]
  have e2 : PyData.eqv (.str (S [c])) (.str (S [k])) = decide (c = k) := by
    have : PyData.eqv (.str (S [c])) (.str (S [k])) = (S [c] == S [k]) := by simp [PyData.eqv]
    rw [this]
    by_cases q : c = k
    · subst q; simp
    · have : S [c] ≠ S [k] := fun e => q (by have := S_inj e; simpa using this)
      simp [q, this]
  dsimp only
  rw [if_pos ⟨by simp [PyData.depth], by simp [PyData.depth]⟩, e2]
theorem c_blank : (" " : Str) = S [32] := by decide +kernel
theorem three_ch (q r a : Nat) : ∀ c ∈ three q r a, c ∈ [45, 114, 119, 120, 83, 115, 84, 116] := by
  intro c hc
  unfold three at hc
  simp only [List.mem_cons, List.not_mem_nil, or_false] at hc
  rcases hc with hc | hc | hc
  · subst hc; split <;> simp
  · subst hc; split <;> simp
  · subst hc
    unfold xtab
    have key : ∀ (l : List Nat) (k z : Nat), l.getD k z ∈ z :: l := by
      intro l k z
      rw [List.getD_eq_getElem?_getD]
      cases q : l[k]? with
      | none => simp
      | some y => simp [List.mem_of_getElem? q]
    split
    · exact (by decide : ∀ x ∈ (45 :: [45, 120, 83, 115] : List Nat), x ∈ [45, 114, 119, 120, 83, 115, 84, 116]) _ (key [45, 120, 83, 115] (r % 2 + a * 2) 45)
    · exact (by decide : ∀ x ∈ (45 :: [45, 120, 84, 116] : List Nat), x ∈ [45, 114, 119, 120, 83, 115, 84, 116]) _ (key [45, 120, 84, 116] (r % 2 + a * 2) 45)
theorem tch_ch (t : Nat) : tch t ∈ [63, 112, 99, 100, 98, 45, 108, 115] := by
  have key : ∀ (l : List Nat) (k z : Nat), l.getD k z ∈ z :: l := by
    intro l k z
    rw [List.getD_eq_getElem?_getD]
    cases q : l[k]? with
    | none => simp
    | some y => simp [List.mem_of_getElem? q]
  unfold tch
  exact (by decide : ∀ x ∈ (63 :: [63, 112, 99, 63, 100, 63, 98, 63, 45, 63, 108, 63, 115, 63, 63, 63] : List Nat), x ∈ [63, 112, 99, 100, 98, 45, 108, 115]) _ (key [63, 112, 99, 63, 100, 63, 98, 63, 45, 63, 108, 63, 115, 63, 63, 63] t 63)
theorem row_ch (M : Nat) : ∀ c ∈ row M, c < 124 ∧ 44 < c := by
  intro c hc
  unfold row at hc
  have t3 : ∀ {q r a}, c ∈ three q r a → c < 124 ∧ 44 < c := fun h => (by decide : ∀ c ∈ [45, 114, 119, 120, 83, 115, 84, 116], c < 124 ∧ 44 < c) c (three_ch _ _ _ c h)
  rcases List.mem_cons.mp hc with rfl | hc
  · exact (by decide : ∀ c ∈ [63, 112, 99, 100, 98, 45, 108, 115], c < 124 ∧ 44 < c) _ (tch_ch (M / 4096))
  · rcases List.mem_append.mp hc with hc | hc
    · rcases List.mem_append.mp hc with hc | hc <;> exact t3 hc
    · exact t3 hc
theorem row_len (M : Nat) : (row M).length = 10 := rfl
noncomputable abbrev dInt (M : Nat) : D := .int (M : Int)
theorem joinM_S {d : D} {l : List (List Nat)} {σ : MS} (hb : boxL σ.b d = some (l.map dS)) (hz : l.flatten.length ≤ 1000000) : joinM [.str "", d] σ = some (dS l.flatten, σ) := by
  unfold joinM
  simp only [hb, strL_S]
  rw [if_pos, join_S]
  have h0 : (("" : Str)).length = 0 := by decide +kernel
  rw [h0]
  have : ((l.map S).map (·.length)).sum = l.flatten.length := by
    clear hb hz
    induction l with
    | nil => rfl
    | cons a l ih => simp only [List.map_cons, List.sum_cons, ih, S_length, List.flatten_cons, List.length_append]
  rw [this]; omega
section
variable {al : List Acc} {i : Nat} {A : Acc}
theorem sp_part_count (h : al[i]? = some A) : p_part_count [.acc i] al = some (.int (A.2.length : Nat), al) := by
  have e : slenM ⟨[some (.acc i)], al, []⟩ = some (.int (A.2.length : Nat), ⟨[some (.acc i)], al, []⟩) := by
    unfold slenM accAt0
    dsimp only [List.getElem?_cons_zero]
    rw [h]; rfl
  exact fnP_ret (n := 1) (N := 1) (ds := [.acc i]) (m := bd slenM fun d => rt (.ret d)) (d := .int (A.2.length : Nat)) (σ := ⟨[some (.acc i)], al, []⟩) rfl ((bd_ev e).trans rfl) rfl
theorem eqD_int (a b : Nat) : eqD (.int a) (.int b) = some (decide (a = b)) := by
  rw [← int_beq]; rfl
theorem pop_test (h : al[i]? = some A) : (bd (bd (rd 0) fun d => if isAcc d then callM p_part_count [d] else fun _ => none) fun a => bd (rt (.int 0)) fun b => lf (eqD a b)) ⟨[some (.acc i)], al, []⟩ = some (decide (A.2.length = 0), ⟨[some (.acc i)], al, []⟩) := by
  rw [bd_ev (a := .int (A.2.length : Nat)) (σ' := ⟨[some (.acc i)], al, []⟩)]
  · have := eqD_int A.2.length 0
    rw [bd_ev (a := .int 0) (σ' := ⟨[some (.acc i)], al, []⟩) rfl]
    rw [show (D.int 0) = .int ((0 : Nat) : Int) from rfl, this]; rfl
  · rw [bd_ev (rd_ev rfl), if_pos (show isAcc (D.acc i) = true from rfl)]
    exact callM_ev rfl (sp_part_count h)
theorem sp_pop_nil (h : al[i]? = some A) (h0 : A.2 = []) : p_pop [.acc i] al = some (.tup [dS [], dS []], al) := by
  have hm : m_pop ⟨[some (.acc i)], al, []⟩ = some (.ret (.tup [dS [], dS []]), ⟨[some (.acc i)], al, []⟩) := by
    unfold m_pop
    rw [S_nil]
    refine sq_ret ?_
    rw [if_ev (pop_test h), if_pos (by simp [h0]), sq_rt]
    rfl
  exact fnP_ret (n := 1) (N := 1) (ds := [.acc i]) rfl hm rfl
theorem sp_pop {l : List (Str × Str)} {p : Str × Str} (h : al[i]? = some A) (h0 : A.2 = l ++ [p]) (hz : l.length < 1000000) : p_pop [.acc i] al = some (part p, al.set i (A.1, l)) := by
  have e : spopM ⟨[some (.acc i)], al, []⟩ = some (part p, ⟨[some (.acc i)], al.set i (A.1, l), []⟩) := by
    unfold spopM accAt0
    dsimp only [List.getElem?_cons_zero]
    rw [h]
    simp only [Option.map_some, h0, List.getLast?_append, List.getLast?_singleton, Option.some_or, List.dropLast_concat]
    rw [if_pos (by simp; omega)]
  have hm : m_pop ⟨[some (.acc i)], al, []⟩ = some (.ret (part p), ⟨[some (.acc i)], al.set i (A.1, l), []⟩) := by
    unfold m_pop
    rw [sq_next (σ' := ⟨[some (.acc i)], al, []⟩) (by rw [if_ev (pop_test h), if_neg (by simp [h0])]; rfl), bd_ev e]
    rfl
  exact fnP_ret (n := 1) (N := 1) (ds := [.acc i]) rfl hm (frz_noB _ _ rfl)
theorem sp_push {x y : Str} (h : al[i]? = some A) (hz : A.2.length < 1000000) : p_push [.acc i, .str x, .str y] al = some (.none, al.set i (A.1, A.2 ++ [(x, y)])) := by
  have e : accApp [.acc i, .tup [.str x, .str y]] ⟨[some (.acc i), some (.str x), some (.str y)], al, []⟩ = some (.none, ⟨[some (.acc i), some (.str x), some (.str y)], al.set i (A.1, A.2 ++ [(x, y)]), []⟩) := by
    unfold accApp
    simp only [h]
    rw [if_pos hz]
  have e2 : (bd (rd 0) fun d => if isAcc d then bd (bd (bd (bd (rd 1) fun d => bd (bd (rd 2) fun d => bd (rt []) fun ds => rt (d :: ds)) fun ds => rt (d :: ds)) fun l => lf (mkT l)) fun d => bd (rt []) fun ds => rt (d :: ds)) fun ds => accApp (d :: ds) else fun _ => none) ⟨[some (.acc i), some (.str x), some (.str y)], al, []⟩ = some (.none, ⟨[some (.acc i), some (.str x), some (.str y)], al.set i (A.1, A.2 ++ [(x, y)]), []⟩) := by
    rw [bd_ev (rd_ev rfl), if_pos (show isAcc (D.acc i) = true from rfl)]
    exact (bd_ev (a := [.tup [.str x, .str y]]) (σ' := ⟨[some (.acc i), some (.str x), some (.str y)], al, []⟩) rfl).trans e
  have hm : m_push ⟨[some (.acc i), some (.str x), some (.str y)], al, []⟩ = some (.next, ⟨[some (.acc i), some (.str x), some (.str y)], al.set i (A.1, A.2 ++ [(x, y)]), []⟩) := by
    unfold m_push
    rw [sq_rt]
    exact (bd_ev e2).trans rfl
  exact fnP_next (n := 3) (N := 3) (ds := [.acc i, .str x, .str y]) rfl hm
theorem sp_len (h : al[i]? = some A) (hk : lenOk A = true) : p_len [.acc i] al = some (.int (A.1 + sumParts A.2), al) := by
  have e : sumM ⟨[some (.acc i)], al, []⟩ = some (.int (A.1 + sumParts A.2), ⟨[some (.acc i)], al, []⟩) := by
    unfold sumM accAt0
    dsimp only [List.getElem?_cons_zero]
    rw [h]
    simp only [Option.map_some]
    rw [if_pos hk]
  exact fnP_ret (n := 1) (N := 1) (ds := [.acc i]) (m := sq (bd sumM fun d => rt (.ret d)) (rt .next)) (d := .int (A.1 + sumParts A.2)) (σ := ⟨[some (.acc i)], al, []⟩) rfl (by rw [sq_rt]; exact (bd_ev e).trans rfl) rfl
theorem sp_str (h : al[i]? = some A) (hk : A.2.length ≤ 1000000 ∧ (∀ p ∈ A.2, p.1.length ≤ 1000000 ∧ p.2.length ≤ 1000000) ∧ JoinOk "" (textsOf A.2) = true) : p_str [.acc i] al = some (.str (Txt.join "" (textsOf A.2)), al) := by
  have e : strM ⟨[some (.acc i)], al, []⟩ = some (.str (Txt.join "" (textsOf A.2)), ⟨[some (.acc i)], al, []⟩) := by
    unfold strM accAt0
    dsimp only [List.getElem?_cons_zero]
    rw [h]
    simp only [Option.map_some]
    rw [if_pos hk]
  exact fnP_ret (n := 1) (N := 1) (ds := [.acc i]) (m := sq (bd strM fun d => rt (.ret d)) (rt .next)) (d := .str (Txt.join "" (textsOf A.2))) (σ := ⟨[some (.acc i)], al, []⟩) rfl (by rw [sq_rt]; exact (bd_ev e).trans rfl) rfl
end
theorem contains_one (l : List Nat) (c : Nat) : Txt.contains (S l) (S [c]) = decide (c ∈ l) := by
  have := PyProof.Rows.empty_one (S l) c
  unfold Txt.contains
  show (!(Builtin.Str.occurrences (S l) ⟨#[c]⟩ 0 (S l).length 1).isEmpty) = _
  rw [this, Bool.not_not]
  exact decide_eq_decide.mpr (by simp [S])
theorem inD_one (l : List Nat) (c : Nat) : inD (dS [c]) (dS l) = some (decide (c ∈ l)) := by
  show some (Txt.contains (S l) (S [c])) = _
  rw [contains_one]
theorem c_sst : ("sStT" : Str) = S [115, 83, 116, 84] := by decide +kernel
theorem strOk_S (l : List Nat) (h : ∀ c ∈ l, c < 1114112) : pyO (dS l) = some (.str (S l)) := by
  unfold pyO
  rw [if_pos]
  unfold PyData.strOk
  simp only [S, Array.all_eq_true, decide_eq_true_eq]
  intro i hi
  exact h _ (by simp)
theorem eqv_S (a b : List Nat) : PyData.eqv (.str (S a)) (.str (S b)) = decide (a = b) := by
  have : PyData.eqv (.str (S a)) (.str (S b)) = (S a == S b) := by simp [PyData.eqv]
  rw [this]
  by_cases q : a = b
  · subst q; simp
  · have : S a ≠ S b := fun e => q (S_inj e)
    simp [q, this]
theorem eqD_S (a b : List Nat) (ha : ∀ c ∈ a, c < 1114112) (hb : ∀ c ∈ b, c < 1114112) : eqD (dS a) (dS b) = some (decide (a = b)) := by
  unfold eqD
  rw [strOk_S a ha, strOk_S b hb]
  dsimp only
  rw [if_pos ⟨by simp [PyData.depth], by simp [PyData.depth]⟩, eqv_S]
theorem eqD_pair (a b x y : List Nat) (ha : ∀ c ∈ a, c < 1114112) (hb : ∀ c ∈ b, c < 1114112) (hx : ∀ c ∈ x, c < 1114112) (hy : ∀ c ∈ y, c < 1114112) : eqD (.tup [dS a, dS b]) (.tup [dS x, dS y]) = some (decide (a = x) && decide (b = y)) := by
  have t : ∀ u v : List Nat, (∀ c ∈ u, c < 1114112) → (∀ c ∈ v, c < 1114112) → pyO (.tup [dS u, dS v]) = some (.tuple [.str (S u), .str (S v)]) := by
    intro u v hu hv
    unfold pyO pyOs
    rw [strOk_S u hu]
    unfold pyOs
    rw [strOk_S v hv]
    rfl
  unfold eqD
  rw [t a b ha hb, t x y hx hy]
  dsimp only
  rw [if_pos ⟨by simp [PyData.depth, PyData.depthAll], by simp [PyData.depth, PyData.depthAll]⟩]
  have : PyData.eqv (.tuple [.str (S a), .str (S b)]) (.tuple [.str (S x), .str (S y)]) = (PyData.eqv (.str (S a)) (.str (S x)) && PyData.eqv (.str (S b)) (.str (S y))) := by simp [PyData.eqv, PyData.eqvAll]
  rw [this, eqv_S, eqv_S]
theorem neD_int (a b : Nat) : neD (.int a) (.int b) = some (!decide (a = b)) := by unfold neD; rw [eqD_int]; rfl
theorem lenA_ev {i : Nat} {σ : MS} {A : Acc} (h : σ.a[i]? = some A) (hk : lenOk A = true) (h0 : 0 ≤ A.1 + sumParts A.2 ∧ A.1 + sumParts A.2 < 2 ^ 62) : lenA p_len [.acc i] σ = some (.int (A.1 + sumParts A.2), σ) := by
  unfold lenA
  have := callM_ev (p := p_len) (ds := [.acc i]) (σ := σ) rfl (sp_len h hk)
  simp only [this]
  rw [if_pos h0]
end Mine
end
section
open PySem PySem.W
set_option autoImplicit false
namespace Mine
noncomputable def nums (ns : List Int) (z : Nat) (k : Nat) : List Int := ns.take k ++ (List.replicate z (0 : Int)).drop ns.length
noncomputable def modesOf (ns : List Int) : List Nat := (([33181, 17388, 44391, 19437, 0, 0] : List Int).zip (nums ns 4 6)).map fun p => lowOne p.1 p.2
theorem sp_modes (ns : List Int) (hn : ns.length ≤ 63) (al : List Acc) : p_law_modes [.lst (ns.map .int)] al = some (dI (modesOf ns), al) := by
  have e0 : x_law_modes_0 ⟨[some (.lst (ns.map .int)), none, none], al, []⟩ = some (.lst ((nums ns 4 6).map .int), ⟨[some (.lst (ns.map .int)), none, none], al, []⟩) := by
    unfold x_law_modes_0
    have h1 : (bd (rd 0) fun a => bd (rt none) fun l => bd (bd (rt (.int 6)) fun d => lf (asI d)) fun u => bd (rt none) fun t => fun σ => (sliceD σ.b l u t a).map fun d => (d, σ)) ⟨[some (.lst (ns.map .int)), none, none], al, []⟩ = some (.lst ((ns.take 6).map .int), ⟨[some (.lst (ns.map .int)), none, none], al, []⟩) := by
      have : (bd (rd 0) fun a => bd (rt none) fun l => bd (bd (rt (.int 6)) fun d => lf (asI d)) fun u => bd (rt none) fun t => fun σ => (sliceD σ.b l u t a).map fun d => (d, σ)) ⟨[some (.lst (ns.map .int)), none, none], al, []⟩ = (sliceD [] none (some 6) none (.lst (ns.map .int))).map fun d => (d, ⟨[some (.lst (ns.map .int)), none, none], al, []⟩) := rfl
      rw [this]
      unfold sliceD
      dsimp only
      rw [if_pos ⟨by simp; omega, by simp⟩]
      have := pickL_take (ns.map D.int) 6
      rw [show ((6 : Nat) : Int) = 6 from rfl] at this
      rw [this, List.map_take]
      rfl
    rw [bd_ev h1]
    have h2 : (bd (bd (bd (rt (.int 0)) fun d => bd (bd (rt (.int 0)) fun d => bd (bd (rt (.int 0)) fun d => bd (bd (rt (.int 0)) fun d => bd (rt []) fun ds => rt (d :: ds)) fun ds => rt (d :: ds)) fun ds => rt (d :: ds)) fun ds => rt (d :: ds)) fun l => lf (mkL l)) fun a => bd (bd (bd (bd (rd 0) fun d => bd (rt []) fun ds => rt (d :: ds)) lenM) fun d => lf (asI d)) fun l => bd (rt none) fun u => bd (rt none) fun t => fun σ => (sliceD σ.b l u t a).map fun d => (d, σ)) ⟨[some (.lst (ns.map .int)), none, none], al, []⟩ = some (.lst (((List.replicate 4 (0 : Int)).drop ns.length).map .int), ⟨[some (.lst (ns.map .int)), none, none], al, []⟩) := by
      rw [bd_ev (a := .lst ((List.replicate 4 (0 : Int)).map .int)) (σ' := ⟨[some (.lst (ns.map .int)), none, none], al, []⟩) rfl]
      have h3 : (bd (bd (bd (rd 0) fun d => bd (rt []) fun ds => rt (d :: ds)) lenM) fun d => lf (asI d)) ⟨[some (.lst (ns.map .int)), none, none], al, []⟩ = some (some (ns.length : Int), ⟨[some (.lst (ns.map .int)), none, none], al, []⟩) := by
        rw [bd_ev (a := .int ns.length) (σ' := ⟨[some (.lst (ns.map .int)), none, none], al, []⟩)]
        · rfl
        · rw [bd_ev (a := [.lst (ns.map .int)]) (σ' := ⟨[some (.lst (ns.map .int)), none, none], al, []⟩) rfl]
          unfold lenM lenD
          simp only [List.length_map]
          rw [if_pos (by omega)]
      rw [bd_ev h3]
      have : (bd (rt none) fun u => bd (rt none) fun t => fun (σ : MS) => (sliceD σ.b (some (ns.length : Int)) u t (.lst ((List.replicate 4 (0 : Int)).map .int))).map fun d => (d, σ)) ⟨[some (.lst (ns.map .int)), none, none], al, []⟩ = (sliceD [] (some (ns.length : Int)) none none (.lst ((List.replicate 4 (0 : Int)).map .int))).map fun d => (d, ⟨[some (.lst (ns.map .int)), none, none], al, []⟩) := rfl
      rw [this]
      unfold sliceD
      dsimp only
      rw [if_pos ⟨by simp, by simp⟩, pickL_drop, List.map_drop]
      rfl
    rw [bd_ev h2]
    unfold lf addD
    dsimp only
    rw [if_pos (by simp; omega)]
    unfold nums
    rw [List.map_append]
    rfl
  have e2 : x_law_modes_2 ⟨[some (.lst (ns.map .int)), some (.lst ((nums ns 4 6).map .int)), some (.lst (([33181, 17388, 44391, 19437, 0, 0] : List Int).map .int))], al, []⟩ = some (dI (modesOf ns), ⟨[some (.lst (ns.map .int)), some (.lst ((nums ns 4 6).map .int)), some (.lst (([33181, 17388, 44391, 19437, 0, 0] : List Int).map .int))], al, []⟩) := by
    unfold x_law_modes_2
    obtain ⟨σ', h, hp⟩ := cls_map (fun p : Int × Int => D.tup [.int p.1, .int p.2]) (fun p : Int × Int => D.int (lowOne p.1 p.2)) (fun d σ => match unD [] d with | some l => if l.length = 2 then some (wrs [0, 1] l σ) else none | none => none) e_law_modes_0
      (fun σ => σ.a = al ∧ σ.b = [] ∧ σ.v.length = 2) (([33181, 17388, 44391, 19437, 0, 0] : List Int).zip (nums ns 4 6)) (by
        intro p _ σ hσ
        obtain ⟨v, a, b⟩ := σ
        obtain ⟨rfl, rfl, hv⟩ := hσ
        match v, hv with
        | [x, y], _ =>
          refine ⟨⟨[some (.int p.1), some (.int p.2)], a, []⟩, ⟨[some (.int p.1), some (.int p.2)], a, []⟩, rfl, ?_, rfl, rfl, rfl⟩
          rw [← low_int]
          rfl) (capV 2 [] ⟨[some (.lst (ns.map .int)), some (.lst ((nums ns 4 6).map .int)), some (.lst (([33181, 17388, 44391, 19437, 0, 0] : List Int).map .int))], al, []⟩) ⟨rfl, rfl, rfl⟩
    refine (comp_ev (ds := (([33181, 17388, 44391, 19437, 0, 0] : List Int).zip (nums ns 4 6)).map fun p => D.tup [.int p.1, .int p.2]) ?_ h ?_).trans ?_
    · rw [← zipL_map]; rfl
    · simp; omega
    · obtain ⟨v', a', b'⟩ := σ'
      obtain ⟨rfl, rfl, _⟩ := hp
      unfold modesOf dI
      rw [List.map_map]
      rfl
  have hm : m_law_modes ⟨[some (.lst (ns.map .int)), none, none], al, []⟩ = some (.ret (dI (modesOf ns)), ⟨[some (.lst (ns.map .int)), some (.lst ((nums ns 4 6).map .int)), some (.lst (([33181, 17388, 44391, 19437, 0, 0] : List Int).map .int))], al, []⟩) := by
    unfold m_law_modes
    rw [sq_next (σ' := ⟨[some (.lst (ns.map .int)), some (.lst ((nums ns 4 6).map .int)), none], al, []⟩) (by unfold s_law_modes_0; rw [bd_ev e0]; rfl)]
    rw [sq_next (σ' := ⟨[some (.lst (ns.map .int)), some (.lst ((nums ns 4 6).map .int)), some (.lst (([33181, 17388, 44391, 19437, 0, 0] : List Int).map .int))], al, []⟩) rfl, sq_rt]
    unfold s_law_modes_2
    rw [bd_ev e2]; rfl
  exact fnP_ret (n := 1) (N := 3) (ds := [.lst (ns.map .int)]) rfl hm (frz_noB _ _ (by unfold dI noB; exact noBs_map _ (fun _ => rfl) _))
theorem modesOf_len (ns : List Int) : 4 ≤ (modesOf ns).length ∧ (modesOf ns).length ≤ 6 := by
  unfold modesOf nums
  simp only [List.length_map, List.length_zip, List.length_cons, List.length_nil, List.length_append, List.length_take, List.length_drop, List.length_replicate]
  omega
theorem modesOf_lt (ns : List Int) : ∀ M ∈ modesOf ns, M < 65536 := by
  intro M hM
  unfold modesOf at hM
  obtain ⟨p, _, rfl⟩ := List.mem_map.mp hM
  exact low_lt _ _
noncomputable def wsum (r a : Nat) : Nat := (r / 4 + r / 2 % 2 * 2 + r % 2 + a * 2) % 3
noncomputable def nxt (M q : Nat) : Nat := wsum (rgt M q) (abv M q)
theorem nxt_lt (M q : Nat) : nxt M q < 3 := Nat.mod_lt _ (by decide)
theorem sp_next (M q : Nat) (hq : q < 3) (al : List Acc) : p_law_next [.int M, .int q] al = some (.int (nxt M q : Nat), al) := by
  have hr := rgt_int M q hq
  have ha := abv_int M q hq
  have hr8 := rgt_lt M q
  have ha2 := abv_lt M q
  have e0 : s_law_next_0 ⟨[some (.int M), some (.int q), none], al, []⟩ = some (.next, ⟨[some (.int M), some (.int q), some (.int (rgt M q))], al, []⟩) := by
    rw [← hr]
    rcases lt3 q hq with rfl | rfl | rfl <;> rfl
  have e1 : x_law_next_1 ⟨[some (.int M), some (.int q), some (.int (rgt M q))], al, []⟩ = some (.int (nxt M q : Nat), ⟨[some (.int M), some (.int q), some (.int (rgt M q))], al, []⟩) := by
    unfold nxt
    generalize rgt M q = r at *
    have e : x_law_next_1 ⟨[some (.int M), some (.int q), some (.int r)], al, []⟩ = some (.int (((((r : Int).fdiv 4 + ((r : Int).fdiv 2).fmod 2 * 2) + (r : Int).fmod 2) + ((M : Int).fdiv (2 ^ ((11 : Int) - q).toNat)).fmod 2 * 2).fmod 3), ⟨[some (.int M), some (.int q), some (.int r)], al, []⟩) := by
      rcases lt3 q hq with rfl | rfl | rfl <;> rfl
    rw [e, ha]
    generalize abv M q = a at *
    clear hr ha e0 e
    rcases lt8 r hr8 with rfl | rfl | rfl | rfl | rfl | rfl | rfl | rfl <;> (rcases (by omega : a = 0 ∨ a = 1) with rfl | rfl <;> rfl)
  have hm : m_law_next ⟨[some (.int M), some (.int q), none], al, []⟩ = some (.ret (.int (nxt M q : Nat)), ⟨[some (.int M), some (.int q), some (.int (rgt M q))], al, []⟩) := by
    unfold m_law_next s_law_next_1
    rw [sq_next e0, sq_rt, bd_ev e1]; rfl
  exact fnP_ret (n := 2) (N := 3) (ds := [.int M, .int q]) rfl hm rfl
noncomputable def wOf (c : Nat) : Int := (lWorth.lookup (S [c])).getD 0
theorem worthD_S : ∀ l : List Nat, worthD (l.map fun ch => dS [ch]) = some (l.map wOf)
  | [] => rfl
  | c :: l => by
    show (worthD (l.map fun ch => dS [ch])).map (((lWorth.lookup (S [c])).getD 0) :: ·) = _
    rw [worthD_S l]; rfl
theorem worth_dec : ∀ q < 3, ∀ r < 8, ∀ a < 2, ((three q r a).map wOf).sum.fmod 3 = ((wsum r a : Nat) : Int) := by decide +kernel
theorem sp_worth (M q : Nat) (hq : q < 3) (al : List Acc) : p_law_worth [dS (three q (rgt M q) (abv M q))] al = some (.int (nxt M q : Nat), al) := by
  have h := worth_dec q hq _ (rgt_lt M q) _ (abv_lt M q)
  have hr : r_law_worth ⟨[some (dS (three q (rgt M q) (abv M q))), none], al, []⟩ = some (.ret (.int (nxt M q : Nat))) := by
    unfold r_law_worth
    dsimp only
    rw [seqD_S]
    dsimp only
    rw [worthD_S]
    dsimp only
    rw [h, if_pos (by rw [List.length_map]; show 3 ≤ 1000000; decide)]
    rfl
  unfold p_law_worth
  exact fnP_ret (n := 1) (N := 2) (ds := [dS (three q (rgt M q) (abv M q))]) (d := .int (nxt M q : Nat)) (σ := ⟨[some (dS (three q (rgt M q) (abv M q))), none], al, []⟩) rfl (by
    show (r_law_worth ⟨[some (dS (three q (rgt M q) (abv M q))), none], al, []⟩).map _ = _
    rw [hr]; rfl) rfl
noncomputable abbrev sst (c : Nat) : Prop := c ∈ [115, 83, 116, 84]
noncomputable def knd (c : Nat) : Nat := if c = 45 then 0 else if sst c then 2 else 1
noncomputable def pc1 (c : Nat) : Str × Str := (S (if c = 45 ∨ sst c then [32] else []), S (if c = 45 then [] else [c]))
theorem knd_lt (c : Nat) : knd c < 3 := by unfold knd; split; decide; split <;> decide
theorem part_pc1 (c : Nat) : part (pc1 c) = .tup [dS (if c = 45 ∨ sst c then [32] else []), dS (if c = 45 then [] else [c])] := rfl
theorem sp_kind (c : Nat) (hc : c < 1114112) (al : List Acc) : p_law_kind [part (pc1 c)] al = some (.int (knd c : Nat), al) := by
  have hm : m_law_kind ⟨[some (part (pc1 c))], al, []⟩ = some (.ret (.int (knd c : Nat)), ⟨[some (part (pc1 c))], al, []⟩) := by
    unfold m_law_kind
    rw [sq_rt]
    unfold s_law_kind_0
    have e : x_law_kind_0 ⟨[some (part (pc1 c))], al, []⟩ = some (.int (knd c : Nat), ⟨[some (part (pc1 c))], al, []⟩) := by
      unfold x_law_kind_0
      rw [S_nil]
      have t : (bd (bd (rd 0) fun a => bd (rt (.int 1)) fun b => fun σ => (itemD σ.b a b).map fun d => (d, σ)) fun a => bd (rt (dS [])) fun b => lf (eqD a b)) ⟨[some (part (pc1 c))], al, []⟩ = some (decide (c = 45), ⟨[some (part (pc1 c))], al, []⟩) := by
        rw [bd_ev (a := dS (if c = 45 then [] else [c])) (σ' := ⟨[some (part (pc1 c))], al, []⟩) rfl, bd_ev (a := dS []) (σ' := ⟨[some (part (pc1 c))], al, []⟩) rfl, eqD_S _ _ (by intro x hx; split at hx; cases hx; simp at hx; omega) (by simp)]
        by_cases q : c = 45
        · simp [q]; rfl
        · simp [q]; rfl
      rw [if_ev t]
      unfold knd
      by_cases q : c = 45
      · rw [if_pos (by simpa using q), if_pos q]; rfl
      · rw [if_neg (by simpa using q), if_neg q]
        by_cases h : sst c
        · rw [if_pos h]
          have : part (pc1 c) = .tup [dS [32], dS (if c = 45 then [] else [c])] := by rw [part_pc1, if_pos (Or.inr h)]
          rw [this]; rfl
        · rw [if_neg h]
          have : part (pc1 c) = .tup [dS [], dS (if c = 45 then [] else [c])] := by rw [part_pc1, if_neg (fun z => z.elim q h)]
          rw [this]; rfl
    rw [bd_ev e]; rfl
  exact fnP_ret (n := 1) (N := 1) (ds := [part (pc1 c)]) rfl hm rfl
end Mine
end
section
open PySem PySem.W
set_option autoImplicit false
namespace Mine
noncomputable abbrev dNs (l : List Nat) : D := .lst (l.map fun (n : Nat) => D.int (n : Int))
noncomputable abbrev dAf (f : Nat → Nat) : D := .lst [.int (f 0 : Nat), .int (f 1 : Nat), .int (f 2 : Nat)]
noncomputable abbrev dTu (T : Nat → Nat → Nat) : D := .lst [dAf (T 0), dAf (T 1), dAf (T 2)]
noncomputable abbrev cf (a b : List Nat) : List Acc := [(1, a.reverse.map pc1), (2, b.reverse.map pc1)]
theorem pyOs_ns : ∀ l : List Nat, pyOs (l.map fun (n : Nat) => D.int (n : Int)) = some (l.map fun (n : Nat) => PyData.int (n : Int))
  | [] => rfl
  | n :: l => by
    rw [List.map_cons, pyOs, pyOs_ns l]; rfl
theorem eqv_int (a b : Nat) : PyData.eqv (.int (a : Int)) (.int (b : Int)) = decide (a = b) := by
  rw [← int_beq]; simp [PyData.eqv]
theorem inD_ns (x : Nat) (l : List Nat) : inD (.int (x : Int)) (dNs l) = some (decide (x ∈ l)) := by
  unfold inD
  dsimp only
  rw [pyOs_ns]
  rw [show pyO (D.int (x : Int)) = some (.int (x : Int)) from rfl]
  dsimp only
  rw [if_pos (by simp [PyData.depth])]
  congr 1
  induction l with
  | nil => rfl
  | cons a l ih =>
    rw [List.map_cons, List.any_cons, ih, eqv_int]
    by_cases h : a = x
    · subst h; simp
    · have h' : ¬ x = a := fun e => h e.symm
      simp [h, h']
theorem neD_nil (l : List Nat) : neD (dNs l) (.lst []) = some (decide (l ≠ [])) := by
  unfold neD eqD
  have e : pyO (dNs l) = some (.list (l.map fun (n : Nat) => PyData.int (n : Int))) := by
    unfold pyO; rw [pyOs_ns]; rfl
  have e2 : pyO (.lst []) = some (.list []) := by unfold pyO pyOs; rfl
  have dep : ∀ l : List Nat, PyData.depthAll (l.map fun (n : Nat) => PyData.int (n : Int)) ≤ 1 := by
    intro l
    induction l with
    | nil => simp [PyData.depthAll]
    | cons a l ih => simp only [List.map_cons, PyData.depthAll, PyData.depth]; omega
  rw [e, e2]
  dsimp only
  rw [if_pos ⟨by simp only [PyData.depth]; have := dep l; omega, by simp [PyData.depth, PyData.depthAll]⟩]
  cases l with
  | nil => simp [PyData.eqv, PyData.eqvAll]
  | cons a l => simp [PyData.eqv, PyData.eqvAll]
theorem item_af (f : Nat → Nat) (bs : List (List D)) {q : Nat} (hq : q < 3) : itemD bs (dAf f) (.int (q : Int)) = some (.int (f q : Nat)) := by
  refine itemL_nat ?_ (by omega)
  rcases lt3 q hq with rfl | rfl | rfl <;> rfl
theorem item_tu (T : Nat → Nat → Nat) (bs : List (List D)) {q : Nat} (hq : q < 3) : itemD bs (dTu T) (.int (q : Int)) = some (dAf (T q)) := by
  refine itemL_nat ?_ (by omega)
  rcases lt3 q hq with rfl | rfl | rfl <;> rfl
theorem cls_filt {α : Type} (f g : α → D) (p : α → Bool) (asg : D → MS → Option MS) (m : Mx (List D)) (P : MS → Prop) : ∀ (l : List α), (∀ a ∈ l, ∀ σ, P σ → ∃ σ1 σ2, asg (f a) σ = some σ1 ∧ m σ1 = some (if p a then [g a] else [], σ2) ∧ P σ2) →
    ∀ σ, P σ → ∃ σ', clsM asg m (l.map f) σ = some ((l.filter p).map g, σ') ∧ P σ'
  | [], _, σ, h => ⟨σ, rfl, h⟩
  | a :: l, st, σ, h => by
    obtain ⟨σ1, σ2, h1, h2, h3⟩ := st a (.head _) σ h
    obtain ⟨σ3, h4, h5⟩ := cls_filt f g p asg m P l (fun b hb => st b (.tail _ hb)) σ2 h3
    refine ⟨σ3, (cls_cons h1 h2 h4).trans ?_, h5⟩
    cases q : p a
    · rw [List.filter_cons_of_neg (by rw [q]; decide)]; rfl
    · rw [List.filter_cons_of_pos q]; rfl
theorem comp1 {α : Type} {is : List Nat} {mi m : Mx (List D)} {σ : MS} (f g : α → D) (p : α → Bool) (l : List α) (hi : mi σ = some (l.map f, σ))
    (hm : ∀ a ∈ l, m ⟨some (f a) :: is.map (fun i => (σ.v[i]?).join), σ.a, σ.b⟩ = some (if p a then [g a] else [], ⟨some (f a) :: is.map (fun i => (σ.v[i]?).join), σ.a, σ.b⟩)) (hz : l.length ≤ 1000000) :
    compM 1 is mi (fun d σ => some (wr 0 d σ)) m σ = some (.lst ((l.filter p).map g), σ) := by
  obtain ⟨σ', h, p1, p2, _⟩ := cls_filt f g p (fun d σ => some (wr 0 d σ)) m (fun τ => τ.a = σ.a ∧ τ.b = σ.b ∧ ∃ x, τ.v = x :: is.map (fun i => (σ.v[i]?).join)) l (by
    intro a ha τ hτ
    obtain ⟨v, al, b⟩ := τ
    obtain ⟨h1, h2, x, h3⟩ := hτ
    subst h1; subst h2; subst h3
    exact ⟨_, _, rfl, hm a ha, rfl, rfl, _, rfl⟩) (capV 1 is σ) ⟨rfl, rfl, _, rfl⟩
  refine (comp_ev hi h ?_).trans ?_
  · rw [List.length_map]; exact Nat.le_trans (List.length_filter_le ..) hz
  · rw [p1, p2]
noncomputable abbrev a2 : D → MS → Option MS := fun d σ => match unD [] d with | some l => if l.length = 2 then some (wrs [0, 1] l σ) else none | none => none
theorem comp2 {α : Type} {is : List Nat} {mi m : Mx (List D)} {σ : MS} (f1 f2 g : α → D) (p : α → Bool) (l : List α) (hi : mi σ = some (l.map fun a => .tup [f1 a, f2 a], σ))
    (hm : ∀ a ∈ l, m ⟨some (f1 a) :: some (f2 a) :: is.map (fun i => (σ.v[i]?).join), σ.a, σ.b⟩ = some (if p a then [g a] else [], ⟨some (f1 a) :: some (f2 a) :: is.map (fun i => (σ.v[i]?).join), σ.a, σ.b⟩)) (hz : l.length ≤ 1000000) :
    compM 2 is mi a2 m σ = some (.lst ((l.filter p).map g), σ) := by
  obtain ⟨σ', h, p1, p2, _⟩ := cls_filt (fun a => D.tup [f1 a, f2 a]) g p a2 m (fun τ => τ.a = σ.a ∧ τ.b = σ.b ∧ ∃ x y, τ.v = x :: y :: is.map (fun i => (σ.v[i]?).join)) l (by
    intro a ha τ hτ
    obtain ⟨v, al, b⟩ := τ
    obtain ⟨h1, h2, x, y, h3⟩ := hτ
    subst h1; subst h2; subst h3
    exact ⟨_, _, rfl, hm a ha, rfl, rfl, _, _, rfl⟩) (capV 2 is σ) ⟨rfl, rfl, _, _, rfl⟩
  refine (comp_ev hi h ?_).trans ?_
  · rw [List.length_map]; exact Nat.le_trans (List.length_filter_le ..) hz
  · rw [p1, p2]
theorem filt_true {α : Type} (l : List α) : l.filter (fun _ => true) = l := by simp
theorem zipL_both {α : Type} (f g : α → D) : ∀ l : List α, zipL (l.map f) (l.map g) = l.map fun a => .tup [f a, g a]
  | [] => rfl
  | a :: l => by rw [List.map_cons, List.map_cons, zipL, zipL_both f g l]; rfl
theorem r3_ev {σ : MS} : (bd (bd (rt (.int 3)) fun d => bd (rt []) fun ds => rt (d :: ds)) fun l => lf (range1 l) : Mx (List D)) σ = some ((List.range 3).map fun (q : Nat) => D.int (q : Int), σ) := rfl
section
variable {v : List (Option D)} {bx : List (List D)} {a b : List Nat} {c k j : Nat}
theorem popN (hv : v[k]? = some (some (.acc 0))) (hz : a.length < 1000) : (bd (rd k) fun d => if isAcc d then callM p_pop [d] else fun _ => none) ⟨v, cf (c :: a) b, bx⟩ = some (part (pc1 c), ⟨v, cf a b, bx⟩) := by
  rw [bd_ev (rd_ev hv), if_pos (show isAcc (D.acc 0) = true from rfl)]
  exact callM_ev rfl (sp_pop (al := cf (c :: a) b) (i := 0) (A := (1, (c :: a).reverse.map pc1)) (l := a.reverse.map pc1) (p := pc1 c) rfl (by simp) (by simp; omega))
theorem popF (hv : v[k]? = some (some (.acc 1))) (hz : b.length < 1000) : (bd (rd k) fun d => if isAcc d then callM p_pop [d] else fun _ => none) ⟨v, cf a (c :: b), bx⟩ = some (part (pc1 c), ⟨v, cf a b, bx⟩) := by
  rw [bd_ev (rd_ev hv), if_pos (show isAcc (D.acc 1) = true from rfl)]
  exact callM_ev rfl (sp_pop (al := cf a (c :: b)) (i := 1) (A := (2, (c :: b).reverse.map pc1)) (l := b.reverse.map pc1) (p := pc1 c) rfl (by simp) (by simp; omega))
theorem popN0 (hv : v[k]? = some (some (.acc 0))) : (bd (rd k) fun d => if isAcc d then callM p_pop [d] else fun _ => none) ⟨v, cf [] b, bx⟩ = some (.tup [dS [], dS []], ⟨v, cf [] b, bx⟩) := by
  rw [bd_ev (rd_ev hv), if_pos (show isAcc (D.acc 0) = true from rfl)]
  exact callM_ev rfl (sp_pop_nil (al := cf [] b) (i := 0) (A := (1, [])) rfl rfl)
theorem pieces_ev {al : List Acc} (hp : v[j]? = some (some (part (pc1 c)))) : (bd (bd (rd j) fun a => bd (rt (.int 0)) fun b => fun σ => (itemD σ.b a b).map fun d => (d, σ)) fun d => bd (bd (bd (rd j) fun a => bd (rt (.int 1)) fun b => fun σ => (itemD σ.b a b).map fun d => (d, σ)) fun d => bd (rt []) fun ds => rt (d :: ds)) fun ds => rt (d :: ds) : Mx (List D)) ⟨v, al, bx⟩ = some ([.str (pc1 c).1, .str (pc1 c).2], ⟨v, al, bx⟩) := by
  rw [bd_ev (a := .str (pc1 c).1) (σ' := ⟨v, al, bx⟩) (by rw [bd_ev (rd_ev hp)]; rfl), bd_ev (a := [.str (pc1 c).2]) (σ' := ⟨v, al, bx⟩)]
  · rfl
  · rw [bd_ev (a := .str (pc1 c).2) (σ' := ⟨v, al, bx⟩) (by rw [bd_ev (rd_ev hp)]; rfl)]; rfl
theorem pushF (hv : v[k]? = some (some (.acc 1))) (hp : v[j]? = some (some (part (pc1 c)))) (hz : b.length < 1000) : (bd (rd k) fun d => if isAcc d then bd (bd (bd (rd j) fun a => bd (rt (.int 0)) fun b => fun σ => (itemD σ.b a b).map fun d => (d, σ)) fun d => bd (bd (bd (rd j) fun a => bd (rt (.int 1)) fun b => fun σ => (itemD σ.b a b).map fun d => (d, σ)) fun d => bd (rt []) fun ds => rt (d :: ds)) fun ds => rt (d :: ds)) fun ds => callM p_push (d :: ds) else fun _ => none) ⟨v, cf a b, bx⟩ = some (.none, ⟨v, cf a (c :: b), bx⟩) := by
  rw [bd_ev (rd_ev hv), if_pos (show isAcc (D.acc 1) = true from rfl), bd_ev (pieces_ev hp)]
  refine (callM_ev rfl (sp_push (al := cf a b) (i := 1) (A := (2, b.reverse.map pc1)) (x := (pc1 c).1) (y := (pc1 c).2) rfl (by simp; omega))).trans ?_
  simp
theorem pushN (hv : v[k]? = some (some (.acc 0))) (hp : v[j]? = some (some (part (pc1 c)))) (hz : a.length < 1000) : (bd (rd k) fun d => if isAcc d then bd (bd (bd (rd j) fun a => bd (rt (.int 0)) fun b => fun σ => (itemD σ.b a b).map fun d => (d, σ)) fun d => bd (bd (bd (rd j) fun a => bd (rt (.int 1)) fun b => fun σ => (itemD σ.b a b).map fun d => (d, σ)) fun d => bd (rt []) fun ds => rt (d :: ds)) fun ds => rt (d :: ds)) fun ds => callM p_push (d :: ds) else fun _ => none) ⟨v, cf a b, bx⟩ = some (.none, ⟨v, cf (c :: a) b, bx⟩) := by
  rw [bd_ev (rd_ev hv), if_pos (show isAcc (D.acc 0) = true from rfl), bd_ev (pieces_ev hp)]
  refine (callM_ev rfl (sp_push (al := cf a b) (i := 0) (A := (1, a.reverse.map pc1)) (x := (pc1 c).1) (y := (pc1 c).2) rfl (by simp; omega))).trans ?_
  simp
theorem cntN (hv : v[k]? = some (some (.acc 0))) : (bd (rd k) fun d => if isAcc d then callM p_part_count [d] else fun _ => none) ⟨v, cf a b, bx⟩ = some (.int (a.length : Nat), ⟨v, cf a b, bx⟩) := by
  rw [bd_ev (rd_ev hv), if_pos (show isAcc (D.acc 0) = true from rfl)]
  have := sp_part_count (al := cf a b) (i := 0) (A := (1, a.reverse.map pc1)) rfl
  simp only [List.length_map, List.length_reverse] at this
  exact callM_ev rfl this
theorem cntF (hv : v[k]? = some (some (.acc 1))) : (bd (rd k) fun d => if isAcc d then callM p_part_count [d] else fun _ => none) ⟨v, cf a b, bx⟩ = some (.int (b.length : Nat), ⟨v, cf a b, bx⟩) := by
  rw [bd_ev (rd_ev hv), if_pos (show isAcc (D.acc 1) = true from rfl)]
  have := sp_part_count (al := cf a b) (i := 1) (A := (2, b.reverse.map pc1)) rfl
  simp only [List.length_map, List.length_reverse] at this
  exact callM_ev rfl this
theorem kindX {T : Nat → Nat → Nat} {al : List Acc} (hv : v[0]? = some (some (dTu T))) (hp : v[j]? = some (some (part (pc1 c)))) (hc : c < 1114112) : (bd (rd 0) fun a => bd (bd (bd (rd j) fun d => bd (rt []) fun ds => rt (d :: ds)) fun ds => callM p_law_kind ds) fun b => fun σ => (itemD σ.b a b).map fun d => (d, σ)) ⟨v, al, bx⟩ = some (dAf (T (knd c)), ⟨v, al, bx⟩) := by
  rw [bd_ev (rd_ev hv), bd_ev (a := .int (knd c : Nat)) (σ' := ⟨v, al, bx⟩)]
  · dsimp only; rw [item_tu T bx (knd_lt c)]; rfl
  · rw [bd_ev (a := [part (pc1 c)]) (σ' := ⟨v, al, bx⟩) (by rw [bd_ev (rd_ev hp)]; rfl)]
    exact callM_ev rfl (sp_kind c hc al)
theorem emp_ev {al : List Acc} {d : D} {r : Bool} (hp : v[j]? = some (some d)) (h : eqD d (.tup [dS [], dS []]) = some r) : (bd (rd j) fun a => bd (bd (bd (rt (.str "")) fun d => bd (bd (rt (.str "")) fun d => bd (rt []) fun ds => rt (d :: ds)) fun ds => rt (d :: ds)) fun l => lf (mkT l)) fun b => lf (eqD a b)) ⟨v, al, bx⟩ = some (r, ⟨v, al, bx⟩) := by
  rw [bd_ev (rd_ev hp), S_nil, bd_ev (a := .tup [dS [], dS []]) (σ' := ⟨v, al, bx⟩) rfl, h]; rfl
end
theorem emp_pc (c : Nat) (hc : c < 1114112) : eqD (part (pc1 c)) (.tup [dS [], dS []]) = some false := by
  rw [part_pc1, eqD_pair _ _ _ _ (by intro x hx; split at hx <;> simp at hx; omega) (by intro x hx; split at hx <;> simp at hx; omega) (by simp) (by simp)]
  by_cases q : c = 45 <;> simp [q]
theorem emp_nil : eqD (.tup [dS [], dS []]) (.tup [dS [], dS []]) = some true := by
  rw [eqD_pair _ _ _ _ (by simp) (by simp) (by simp) (by simp)]; rfl
end Mine
end
section
open PySem PySem.W
set_option autoImplicit false
namespace Mine
noncomputable def stA (T : Nat → Nat → Nat) : List Nat → Nat
  | [] => 0
  | c :: a => T (knd c) (stA T a)
theorem stA_lt {T : Nat → Nat → Nat} (hT : ∀ k q, T k q < 3) : ∀ a, stA T a < 3
  | [] => Nat.succ_pos 2
  | c :: a => hT _ _
theorem c_msst : ("-sStT" : Str) = S [45, 115, 83, 116, 84] := by decide +kernel
noncomputable abbrev fσ (T : Nat → Nat → Nat) (tp : D) (st : Nat) (x pc : Option D) (al : List Acc) : MS := ⟨[some (dTu T), some tp, some (.acc 0), some (.acc 1), some (.int st), x, pc], al, []⟩
section
variable {T : Nat → Nat → Nat} {tp : D}
theorem forth_lay {st : Nat} {pc : Option D} {c : Nat} {b : List Nat} (hc : c < 1114112) (hz : b.length < 1000) : x_law_forth_1 (fσ T tp st (some (dS [c])) pc (cf [] b)) = some (.none, fσ T tp st (some (dS [c])) pc (cf [] (c :: b))) := by
  unfold x_law_forth_1
  rw [c_minus, c_blank, c_msst, S_nil, bd_ev (rd_ev rfl), if_pos (show isAcc (D.acc 1) = true from rfl)]
  have t1 : ((bd (bd (rd 5) fun a => bd (rt (dS [45, 115, 83, 116, 84])) fun b => lf (inD a b)) fun x => if x then (rt (dS [32])) else (rt (dS []))) : Mx D) (fσ T tp st (some (dS [c])) pc (cf [] b)) = some (.str (pc1 c).1, fσ T tp st (some (dS [c])) pc (cf [] b)) := by
    have t : (bd (rd 5) fun a => bd (rt (dS [45, 115, 83, 116, 84])) fun b => lf (inD a b)) (fσ T tp st (some (dS [c])) pc (cf [] b)) = some (decide (c = 45 ∨ sst c), fσ T tp st (some (dS [c])) pc (cf [] b)) := by
      rw [bd_ev (rd_ev rfl), bd_ev (a := dS [45, 115, 83, 116, 84]) (σ' := fσ T tp st (some (dS [c])) pc (cf [] b)) rfl, inD_one]
      have : decide (c ∈ [45, 115, 83, 116, 84]) = decide (c = 45 ∨ sst c) := decide_eq_decide.mpr List.mem_cons
      rw [this]; rfl
    rw [if_ev t]
    unfold pc1
    by_cases q : c = 45 ∨ sst c
    · rw [if_pos (by simpa using q), if_pos q]; rfl
    · rw [if_neg (by simpa using q), if_neg q]; rfl
  have t2 : ((bd (bd (rd 5) fun a => bd (rt (dS [45])) fun b => lf (eqD a b)) fun x => if x then (rt (dS [])) else (rd 5)) : Mx D) (fσ T tp st (some (dS [c])) pc (cf [] b)) = some (.str (pc1 c).2, fσ T tp st (some (dS [c])) pc (cf [] b)) := by
    have t : (bd (rd 5) fun a => bd (rt (dS [45])) fun b => lf (eqD a b)) (fσ T tp st (some (dS [c])) pc (cf [] b)) = some (decide (c = 45), fσ T tp st (some (dS [c])) pc (cf [] b)) := by
      rw [bd_ev (rd_ev rfl), bd_ev (a := dS [45]) (σ' := fσ T tp st (some (dS [c])) pc (cf [] b)) rfl, eqD_ch c 45 hc (by decide)]; rfl
    rw [if_ev t]
    unfold pc1
    by_cases q : c = 45
    · rw [if_pos (by simpa using q), if_pos q]; rfl
    · rw [if_neg (by simpa using q), if_neg q]; rfl
  rw [bd_ev (a := [.str (pc1 c).1, .str (pc1 c).2]) (σ' := fσ T tp st (some (dS [c])) pc (cf [] b))]
  · refine (callM_ev rfl (sp_push (al := cf [] b) (i := 1) (A := (2, b.reverse.map pc1)) (x := (pc1 c).1) (y := (pc1 c).2) rfl (by simp; omega))).trans ?_
    simp
  · rw [bd_ev t1, bd_ev (a := [.str (pc1 c).2]) (σ' := fσ T tp st (some (dS [c])) pc (cf [] b))]
    · rfl
    · rw [bd_ev t2]; rfl
theorem forth_l1 {st : Nat} {pc : Option D} : ∀ (cs b : List Nat) (x : Option D), (∀ c ∈ cs, c < 1114112) → cs.length + b.length < 1000 → ∃ y, loopM (fun d σ => some (wr 5 d σ)) b_law_forth_0 o_law_forth_0 (dCs cs) (fσ T tp st x pc (cf [] b)) = some (.next, fσ T tp st y pc (cf [] (cs.reverse ++ b)))
  | [], b, x, _, _ => ⟨x, rfl⟩
  | c :: cs, b, x, hc, hz => by
    obtain ⟨y, h⟩ := forth_l1 cs (c :: b) (some (dS [c])) (fun d hd => hc d (.tail _ hd)) (by simp at hz ⊢; omega)
    refine ⟨y, (loop_next (σ1 := fσ T tp st (some (dS [c])) pc (cf [] b)) (σ2 := fσ T tp st (some (dS [c])) pc (cf [] (c :: b))) rfl ?_).trans (h.trans ?_)⟩
    · unfold b_law_forth_0
      rw [sq_rt, bd_ev (forth_lay (hc c (.head _)) (by simp at hz; omega))]
      rfl
    · simp
theorem forth_l2 (hT : ∀ k q, T k q < 3) : ∀ (b a : List Nat) (x pc : Option D), (∀ c ∈ b, c < 1114112) → b.length + a.length < 1000 → ∃ y pc', loopM (fun d σ => some (wr 5 d σ)) b_law_forth_1 o_law_forth_1 (dCs b) (fσ T tp (stA T a) x pc (cf a b)) = some (.next, fσ T tp (stA T (b.reverse ++ a)) y pc' (cf (b.reverse ++ a) []))
  | [], a, x, pc, _, _ => ⟨x, pc, rfl⟩
  | c :: b, a, x, pc, hc, hz => by
    obtain ⟨y, pc', h⟩ := forth_l2 hT b (c :: a) (some (dS [c])) (some (part (pc1 c))) (fun d hd => hc d (.tail _ hd)) (by simp at hz ⊢; omega)
    refine ⟨y, pc', (loop_next (σ1 := fσ T tp (stA T a) (some (dS [c])) pc (cf a (c :: b))) (σ2 := fσ T tp (stA T (c :: a)) (some (dS [c])) (some (part (pc1 c))) (cf (c :: a) b)) rfl ?_).trans (h.trans ?_)⟩
    · unfold b_law_forth_1
      have e1 : x_law_forth_2 (fσ T tp (stA T a) (some (dS [c])) pc (cf a (c :: b))) = some (part (pc1 c), fσ T tp (stA T a) (some (dS [c])) pc (cf a b)) := popF rfl (by simp at hz; omega)
      have e2 : x_law_forth_3 (fσ T tp (stA T a) (some (dS [c])) (some (part (pc1 c))) (cf a b)) = some (.none, fσ T tp (stA T a) (some (dS [c])) (some (part (pc1 c))) (cf (c :: a) b)) := pushN rfl rfl (by simp at hz; omega)
      have e3 : x_law_forth_4 (fσ T tp (stA T a) (some (dS [c])) (some (part (pc1 c))) (cf (c :: a) b)) = some (.int (stA T (c :: a) : Nat), fσ T tp (stA T a) (some (dS [c])) (some (part (pc1 c))) (cf (c :: a) b)) := by
        unfold x_law_forth_4
        rw [bd_ev (kindX rfl rfl (hc c (.head _))), bd_ev (rd_ev rfl)]
        dsimp only
        rw [item_af _ _ (stA_lt hT a)]; rfl
      rw [sq_next (σ' := fσ T tp (stA T a) (some (dS [c])) (some (part (pc1 c))) (cf a b)) (by rw [bd_ev e1]; rfl)]
      refine (sq_next ((bd_ev e2).trans rfl)).trans ?_
      rw [sq_rt, bd_ev e3]; rfl
    · simp
theorem sp_forth (hT : ∀ k q, T k q < 3) (tape : List Nat) (hc : ∀ c ∈ tape, c < 1114112) (hz : tape.length < 500) : p_law_forth [dTu T, dS tape] [] = some (.tup [.acc 0, .acc 1, .int (stA T tape.reverse : Nat)], cf tape.reverse []) := by
  obtain ⟨y, h1⟩ := forth_l1 (T := T) (tp := dS tape) (st := 0) (pc := none) tape.reverse [] none (fun c h => hc c (List.mem_reverse.mp h)) (by simp; omega)
  obtain ⟨y2, pc2, h2⟩ := forth_l2 (T := T) (tp := dS tape) hT tape [] y none hc (by simp; omega)
  rw [List.reverse_reverse, List.append_nil] at h1
  rw [List.append_nil] at h2
  have e1 : s_law_forth_1 (fσ T (dS tape) 0 none none (cf [] [])) = some (.next, fσ T (dS tape) 0 y none (cf [] tape)) := by
    unfold s_law_forth_1
    have hs : sliceD [] none none (some (-1)) (dS tape) = some (dS tape.reverse) := by
      unfold sliceD
      dsimp only
      rw [pickS_eq, pickL_rev, if_pos ⟨by rw [S_length]; omega, by rw [S_length, List.length_reverse]; omega, by decide⟩]
    have : i_law_forth_0 (fσ T (dS tape) 0 none none (cf [] [])) = some (dCs tape.reverse, fσ T (dS tape) 0 none none (cf [] [])) := by
      unfold i_law_forth_0
      rw [bd_ev (a := dS tape.reverse) (σ' := fσ T (dS tape) 0 none none (cf [] []))]
      · unfold itM; rw [seqD_S]; rfl
      · rw [bd_ev (rd_ev rfl), bd_ev (a := none) (σ' := fσ T (dS tape) 0 none none (cf [] [])) rfl, bd_ev (a := none) (σ' := fσ T (dS tape) 0 none none (cf [] [])) rfl, bd_ev (a := some (-1)) (σ' := fσ T (dS tape) 0 none none (cf [] [])) rfl]
        dsimp only
        rw [hs]; rfl
    rw [bd_ev this]
    exact h1
  have e2 : s_law_forth_2 (fσ T (dS tape) 0 y none (cf [] tape)) = some (.next, fσ T (dS tape) (stA T tape.reverse) y2 pc2 (cf tape.reverse [])) := by
    unfold s_law_forth_2
    have : i_law_forth_1 (fσ T (dS tape) 0 y none (cf [] tape)) = some (dCs tape, fσ T (dS tape) 0 y none (cf [] tape)) := by
      unfold i_law_forth_1
      rw [bd_ev (rd_ev rfl)]
      unfold itM; rw [seqD_S]; rfl
    rw [bd_ev this]
    exact h2
  have hm : m_law_forth ⟨[some (dTu T), some (dS tape), none, none, none, none, none], [], []⟩ = some (.ret (.tup [.acc 0, .acc 1, .int (stA T tape.reverse : Nat)]), fσ T (dS tape) (stA T tape.reverse) y2 pc2 (cf tape.reverse [])) := by
    unfold m_law_forth
    rw [sq_next (σ' := fσ T (dS tape) 0 none none (cf [] [])) rfl, sq_next e1, sq_next e2, sq_rt]
    rfl
  exact fnP_ret (n := 2) (N := 7) (ds := [dTu T, dS tape]) rfl hm (frz_noB _ _ rfl)
end
end Mine
end
section
open PySem PySem.W
set_option autoImplicit false
namespace Mine
noncomputable def rn (T : Nat → Nat → Nat) : List Nat → Nat → Nat
  | [], q => q
  | x :: w, q => rn T w (T (knd x) q)
theorem rn_snoc (T : Nat → Nat → Nat) (c : Nat) : ∀ (w : List Nat) (q : Nat), rn T (w ++ [c]) q = T (knd c) (rn T w q)
  | [], q => rfl
  | x :: w, q => rn_snoc T c w _
theorem stA_rn (T : Nat → Nat → Nat) : ∀ (w a : List Nat), stA T (w.reverse ++ a) = rn T w (stA T a)
  | [], a => rfl
  | x :: w, a => by
    rw [List.reverse_cons, List.append_assoc]
    exact stA_rn T w (x :: a)
section
variable {T : Nat → Nat → Nat} (hT : ∀ k q, T k q < 3)
include hT
theorem rn_lt : ∀ (w : List Nat) (q : Nat), q < 3 → rn T w q < 3
  | [], q, h => h
  | x :: w, q, _ => rn_lt w _ (hT _ _)
end
noncomputable def cl (T : Nat → Nat → Nat) (w : List Nat) (j : Nat) : List Nat := (List.range 3).filter fun q => decide (rn T w q = j)
noncomputable def bf (T : Nat → Nat → Nat) (c st : Nat) : List Nat := (List.range 3).filter fun q => decide (T (knd c) q = st)
noncomputable def fnd (T : Nat → Nat → Nat) (w B : List Nat) : List Nat := B.filter fun j => decide (cl T w j ≠ [])
section
variable {T : Nat → Nat → Nat} {w B : List Nat} {q j c st : Nat}
theorem mem_cl : q ∈ cl T w j ↔ q < 3 ∧ rn T w q = j := by unfold cl; rw [List.mem_filter, List.mem_range, decide_eq_true_eq]
theorem mem_bf : q ∈ bf T c st ↔ q < 3 ∧ T (knd c) q = st := by unfold bf; rw [List.mem_filter, List.mem_range, decide_eq_true_eq]
theorem mem_fnd : j ∈ fnd T w B ↔ j ∈ B ∧ cl T w j ≠ [] := by unfold fnd; rw [List.mem_filter, decide_eq_true_eq]
theorem bf_nodup : (bf T c st).Nodup := List.Nodup.sublist List.filter_sublist List.nodup_range
theorem fnd_nodup (h : B.Nodup) : (fnd T w B).Nodup := List.Nodup.sublist List.filter_sublist h
theorem cl_step (hT : ∀ k q, T k q < 3) (x j : Nat) : ((List.range 3).filter fun q => decide (T (knd x) q ∈ cl T w j)) = cl T (x :: w) j := by
  unfold cl
  refine List.filter_congr fun q _ => decide_eq_decide.mpr ?_
  show T (knd x) q ∈ cl T w j ↔ _
  rw [mem_cl]
  exact ⟨fun h => h.2, fun h => ⟨hT _ _, h⟩⟩
theorem cl_nil (h : j < 3) : cl T [] j = [j] := by
  rcases lt3 j h with rfl | rfl | rfl <;> rfl
theorem fnd_nil (h : ∀ j ∈ B, j < 3) : fnd T [] B = B := by
  unfold fnd
  refine List.filter_eq_self.mpr fun j hj => ?_
  rw [cl_nil (h j hj)]; rfl
theorem one_of {l : List Nat} {z : Nat} (h : z ∈ l) (h1 : l.length = 1) : l = [z] := by
  match l, h1 with
  | [x], _ => rw [List.mem_singleton] at h; rw [h]
theorem only {z : Nat} : ∀ {l : List Nat}, l.Nodup → z ∈ l → (l.filter fun j => decide (z = j)) = [z]
  | [], _, h => nomatch h
  | a :: l, hn, h => by
    rw [List.nodup_cons] at hn
    by_cases e : z = a
    · subst e
      rw [List.filter_cons_of_pos (by simp)]
      congr 1
      refine List.filter_eq_nil_iff.mpr fun j hj => ?_
      intro e
      have e : z = j := by simpa using e
      subst e
      exact hn.1 hj
    · rw [List.filter_cons_of_neg (by simpa using e)]
      exact only hn.2 ((List.mem_cons.mp h).resolve_left e)
theorem zero_fd (hn : B.Nodup) (hm : rn T w 0 ∈ B) : (B.filter fun j => decide (0 ∈ cl T w j)) = [rn T w 0] := by
  rw [← only hn hm]
  refine List.filter_congr fun j _ => decide_eq_decide.mpr ?_
  rw [mem_cl]
  exact ⟨fun h => h.2, fun h => ⟨by decide, h⟩⟩
theorem two_of {l : List Nat} (h : 2 ≤ l.length) (hn : l.Nodup) : ∃ x y r, l = x :: y :: r ∧ x ≠ y := by
  match l, h with
  | x :: y :: r, _ =>
    refine ⟨x, y, r, rfl, fun e => ?_⟩
    rw [List.nodup_cons] at hn
    exact hn.1 (e ▸ .head _)
theorem own_fd {a1 : List Nat} (hT : ∀ k q, T k q < 3) (hm : rn T w (stA T a1) ∈ B) : rn T w (stA T a1) ∈ fnd T w B := by
  rw [mem_fnd]
  exact ⟨hm, fun e => nomatch (e ▸ mem_cl.mpr ⟨stA_lt hT a1, rfl⟩ : stA T a1 ∈ ([] : List Nat))⟩
end
noncomputable def rk3 (x y z : Nat) : Nat := ((List.range 3).filter fun v => decide (x = v ∨ y = v ∨ z = v)).length
noncomputable def rk (T : Nat → Nat → Nat) (u : List Nat) : Nat := rk3 (rn T u 0) (rn T u 1) (rn T u 2)
noncomputable def g3 (a b d v : Nat) : Nat := if v = 0 then a else if v = 1 then b else d
theorem rk_dec : ∀ x y z a b d : Fin 3, rk3 (g3 a.val b.val d.val x.val) (g3 a.val b.val d.val y.val) (g3 a.val b.val d.val z.val) + (if (x ≠ y ∧ g3 a.val b.val d.val x.val = g3 a.val b.val d.val y.val) ∨ (x ≠ z ∧ g3 a.val b.val d.val x.val = g3 a.val b.val d.val z.val) ∨ (y ≠ z ∧ g3 a.val b.val d.val y.val = g3 a.val b.val d.val z.val) then 1 else 0) ≤ rk3 x.val y.val z.val := by decide +kernel
theorem rk_pos : ∀ x y z : Fin 3, 1 ≤ rk3 x.val y.val z.val := by decide +kernel
theorem rk_le3 (x y z : Nat) : rk3 x y z ≤ 3 := by unfold rk3; exact Nat.le_trans (List.length_filter_le ..) (by rw [List.length_range]; exact Nat.le_refl _)
section
variable {T : Nat → Nat → Nat} (hT : ∀ k q, T k q < 3)
include hT
theorem rk_one (u : List Nat) : 1 ≤ rk T u := rk_pos ⟨_, rn_lt hT u 0 (by decide)⟩ ⟨_, rn_lt hT u 1 (by decide)⟩ ⟨_, rn_lt hT u 2 (by decide)⟩
omit hT in
theorem g3_of (k v : Nat) (h : v < 3) : g3 (T k 0) (T k 1) (T k 2) v = T k v := by
  rcases lt3 v h with rfl | rfl | rfl <;> rfl
theorem rk_step (u : List Nat) (c : Nat) (e : Nat) (he : e = 0 ∨ (e = 1 ∧ ∃ p q, p < 3 ∧ q < 3 ∧ rn T u p ≠ rn T u q ∧ T (knd c) (rn T u p) = T (knd c) (rn T u q))) : rk T (u ++ [c]) + e ≤ rk T u := by
  have h0 := rn_lt hT u 0 (by decide)
  have h1 := rn_lt hT u 1 (by decide)
  have h2 := rn_lt hT u 2 (by decide)
  have key := rk_dec ⟨_, h0⟩ ⟨_, h1⟩ ⟨_, h2⟩ ⟨_, hT (knd c) 0⟩ ⟨_, hT (knd c) 1⟩ ⟨_, hT (knd c) 2⟩
  dsimp only at key
  rw [g3_of _ _ h0, g3_of _ _ h1, g3_of _ _ h2] at key
  unfold rk
  rw [rn_snoc, rn_snoc, rn_snoc]
  refine Nat.le_trans (Nat.add_le_add_left ?_ _) key
  rcases he with rfl | ⟨rfl, p, q, hp, hq, hne, heq⟩
  · exact Nat.zero_le _
  · rw [if_pos]
    · exact Nat.le_refl _
    · have ne : ∀ {a b : Nat} (ha : a < 3) (hb : b < 3), a ≠ b → (⟨a, ha⟩ : Fin 3) ≠ ⟨b, hb⟩ := fun _ _ h e => h (congrArg Fin.val e)
      rcases lt3 p hp with rfl | rfl | rfl <;> rcases lt3 q hq with rfl | rfl | rfl
      · exact absurd rfl hne
      · exact .inl ⟨ne _ _ hne, heq⟩
      · exact .inr (.inl ⟨ne _ _ hne, heq⟩)
      · exact .inl ⟨ne _ _ hne.symm, heq.symm⟩
      · exact absurd rfl hne
      · exact .inr (.inr ⟨ne _ _ hne, heq⟩)
      · exact .inr (.inl ⟨ne _ _ hne.symm, heq.symm⟩)
      · exact .inr (.inr ⟨ne _ _ hne.symm, heq.symm⟩)
      · exact absurd rfl hne
theorem crit_of (u : List Nat) (c st : Nat) (h : 2 ≤ (fnd T u (bf T c st)).length) : ∃ p q, p < 3 ∧ q < 3 ∧ rn T u p ≠ rn T u q ∧ T (knd c) (rn T u p) = T (knd c) (rn T u q) := by
  obtain ⟨x, y, r, e, hne⟩ := two_of h (fnd_nodup bf_nodup)
  have hx : x ∈ fnd T u (bf T c st) := by rw [e]; exact .head _
  have hy : y ∈ fnd T u (bf T c st) := by rw [e]; exact .tail _ (.head _)
  rw [mem_fnd] at hx hy
  obtain ⟨p, hp⟩ := List.exists_mem_of_ne_nil _ hx.2
  obtain ⟨q, hq⟩ := List.exists_mem_of_ne_nil _ hy.2
  rw [mem_cl] at hp hq
  refine ⟨p, q, hp.1, hq.1, by rw [hp.2, hq.2]; exact hne, ?_⟩
  rw [hp.2, hq.2, (mem_bf.mp hx.1).2, (mem_bf.mp hy.1).2]
noncomputable def Pass (T : Nat → Nat → Nat) (c : Nat) (a0 ps : List Nat) : Prop := ∀ k, ps.count k ≤ 1 ∧ (k ∈ ps → k < a0.length ∧ 2 ≤ (fnd T (a0.reverse.drop (k + 1)) (bf T c (stA T (c :: a0)))).length)
inductive Tot (T : Nat → Nat → Nat) : List Nat → List Nat → Prop
  | nil : Tot T [] []
  | cons {c : Nat} {a0 ps qs : List Nat} : Pass T c a0 ps → Tot T a0 qs → Tot T (c :: a0) (ps ++ qs)
theorem tot_count {a qs : List Nat} (h : Tot T a qs) : ∀ k, (a.length ≤ k + 1 → qs.count k = 0) ∧ (k + 1 ≤ a.length → qs.count k + rk T (a.reverse.drop (k + 1)) ≤ 3) := by
  induction h with
  | nil => exact fun k => ⟨fun _ => rfl, fun h => absurd h (Nat.not_succ_le_zero k)⟩
  | @cons c a0 ps qs hp _ ih =>
    intro k
    obtain ⟨i1, i2⟩ := ih k
    obtain ⟨p1, p2⟩ := hp k
    have out : a0.length ≤ k → (ps ++ qs).count k = 0 := fun h => by
      rw [List.count_append, i1 (Nat.le_succ_of_le h), List.count_eq_zero.mpr fun hm => Nat.lt_irrefl _ (Nat.lt_of_lt_of_le (p2 hm).1 h)]
    refine ⟨fun h => out (Nat.le_of_succ_le_succ h), fun h => ?_⟩
    by_cases hk : a0.length ≤ k
    · rw [out hk, Nat.zero_add]; exact rk_le3 _ _ _
    · have hk : k + 1 ≤ a0.length := Nat.lt_of_not_le hk
      have i3 := i2 hk
      rw [List.reverse_cons, List.drop_append_of_le_length (by rw [List.length_reverse]; exact hk), List.count_append]
      have hs := rk_step hT (a0.reverse.drop (k + 1)) c (ps.count k) (by
        by_cases hm : k ∈ ps
        · exact .inr ⟨Nat.le_antisymm p1 (List.count_pos_iff.mpr hm), crit_of hT _ c _ (p2 hm).2⟩
        · exact .inl (List.count_eq_zero.mpr hm))
      omega
theorem tot_le {a qs : List Nat} (h : Tot T a qs) (k : Nat) : qs.count k ≤ 2 := by
  obtain ⟨h1, h2⟩ := tot_count hT h k
  by_cases hk : k + 1 ≤ a.length
  · have := h2 hk
    have := rk_one hT (a.reverse.drop (k + 1))
    omega
  · rw [h1 (Nat.le_of_not_le hk)]; decide
end
end Mine
end
section
open PySem PySem.W
set_option autoImplicit false
namespace Mine
noncomputable abbrev dCl (T : Nat → Nat → Nat) (w B : List Nat) : D := .lst (B.map fun j => dNs (cl T w j))
noncomputable abbrev dPa (pa : List Nat) : List D := pa.map fun (n : Nat) => D.int (n : Int)
noncomputable abbrev bσ (T : Nat → Nat → Nat) (st : Nat) (pc af : Option D) (B : List Nat) (fo pas tn ol on ot : Option D) (al : List Acc) (pa : List Nat) : MS :=
  ⟨[some (dTu T), some (.acc 0), some (.acc 1), some (.int st), pc, af, some (dNs B), fo, some (.box 0), pas, tn, ol, on, ot], al, [dPa pa]⟩
theorem filt_ev {t : Mx Bool} {m : Mx D} {σ : MS} {p : Bool} {d : D} (h : t σ = some (p, σ)) (h1 : p = true → m σ = some (d, σ)) : (bd t fun b => if b then (bd m fun d => rt [d]) else rt [] : Mx (List D)) σ = some (if p then [d] else [], σ) := by
  rw [if_ev h]
  cases p with
  | true => rw [if_pos rfl, if_pos rfl, bd_ev (h1 rfl)]; rfl
  | false => rfl
section
variable {T : Nat → Nat → Nat} {st : Nat} {pc af fo pas tn ol on ot : Option D} {B w a b pa : List Nat} {al : List Acc} {x : Nat}
theorem ev_back3 {f : Nat → Nat} {L : List Nat} {q : Nat} {bx : List (List D)} (hq : q < 3) : e_law_back_3 ⟨[some (.int q), some (dAf f), some (dNs L)], al, bx⟩ = some (if decide (f q ∈ L) then [.int q] else [], ⟨[some (.int q), some (dAf f), some (dNs L)], al, bx⟩) := by
  unfold e_law_back_3
  refine filt_ev ?_ (fun _ => rfl)
  rw [bd_ev (a := .int (f q : Nat)) (σ' := ⟨[some (.int q), some (dAf f), some (dNs L)], al, bx⟩)]
  · rw [bd_ev (rd_ev rfl), inD_ns]; rfl
  · rw [bd_ev (rd_ev rfl), bd_ev (rd_ev rfl)]
    dsimp only
    rw [item_af _ _ hq]; rfl
theorem c_older (hT : ∀ k q, T k q < 3) (hB : B.length ≤ 1000) : compM 1 [5] (bd (rd 9) fun d => lf (itM false d)) (fun d σ => some (wr 0 d σ)) e_law_back_4 (bσ T st pc (some (dAf (T (knd x)))) B fo (some (dCl T w B)) tn ol on ot al pa) = some (dCl T (x :: w) B, bσ T st pc (some (dAf (T (knd x)))) B fo (some (dCl T w B)) tn ol on ot al pa) := by
  refine (comp1 (fun j => dNs (cl T w j)) (fun j => dNs (cl T (x :: w) j)) (fun _ => true) B rfl (fun j hj => ?_) (Nat.le_trans hB (by decide))).trans ?_
  · show e_law_back_4 ⟨[some (dNs (cl T w j)), some (dAf (T (knd x)))], al, [dPa pa]⟩ = some ([dNs (cl T (x :: w) j)], ⟨[some (dNs (cl T w j)), some (dAf (T (knd x)))], al, [dPa pa]⟩)
    unfold e_law_back_4
    have h := comp1 (is := [1, 0]) (σ := ⟨[some (dNs (cl T w j)), some (dAf (T (knd x)))], al, [dPa pa]⟩) (m := e_law_back_3) (fun (q : Nat) => D.int (q : Int)) (fun (q : Nat) => D.int (q : Int)) (fun q => decide (T (knd x) q ∈ cl T w j)) (List.range 3) r3_ev (fun q hq => ev_back3 (List.mem_range.mp hq)) (by decide)
    rw [cl_step hT] at h
    rw [bd_ev h]; rfl
  · rw [filt_true]
theorem c_found (hB : B.length ≤ 1000) : compM 2 [] (bd (bd (rd 6) fun d => bd (bd (rd 11) fun d => bd (rt []) fun ds => rt (d :: ds)) fun ds => rt (d :: ds)) fun l => lf (zip2 l)) a2 e_law_back_5 (bσ T st pc af B fo pas tn (some (dCl T w B)) on ot al pa) = some (dNs (fnd T w B), bσ T st pc af B fo pas tn (some (dCl T w B)) on ot al pa) := by
  refine comp2 (fun (j : Nat) => D.int (j : Int)) (fun j => dNs (cl T w j)) (fun (j : Nat) => D.int (j : Int)) (fun j => decide (cl T w j ≠ [])) B ?_ (fun j hj => ?_) (Nat.le_trans hB (by decide))
  · rw [bd_ev (a := [dNs B, dCl T w B]) (σ' := bσ T st pc af B fo pas tn (some (dCl T w B)) on ot al pa) rfl, ← zipL_both]; rfl
  · show e_law_back_5 ⟨[some (.int j), some (dNs (cl T w j))], al, [dPa pa]⟩ = some (if decide (cl T w j ≠ []) then [.int j] else [], ⟨[some (.int j), some (dNs (cl T w j))], al, [dPa pa]⟩)
    unfold e_law_back_5
    refine filt_ev ?_ (fun _ => rfl)
    rw [bd_ev (rd_ev rfl), bd_ev (a := .lst []) (σ' := ⟨[some (.int j), some (dNs (cl T w j))], al, [dPa pa]⟩) rfl, neD_nil]; rfl
theorem c_zero (hB : B.length ≤ 1000) : compM 2 [] (bd (bd (rd 6) fun d => bd (bd (rd 9) fun d => bd (rt []) fun ds => rt (d :: ds)) fun ds => rt (d :: ds)) fun l => lf (zip2 l)) a2 e_law_back_2 (bσ T st pc af B fo (some (dCl T w B)) tn ol on ot al pa) = some (dNs (B.filter fun j => decide (0 ∈ cl T w j)), bσ T st pc af B fo (some (dCl T w B)) tn ol on ot al pa) := by
  refine comp2 (fun (j : Nat) => D.int (j : Int)) (fun j => dNs (cl T w j)) (fun (j : Nat) => D.int (j : Int)) (fun j => decide (0 ∈ cl T w j)) B ?_ (fun j hj => ?_) (Nat.le_trans hB (by decide))
  · rw [bd_ev (a := [dNs B, dCl T w B]) (σ' := bσ T st pc af B fo (some (dCl T w B)) tn ol on ot al pa) rfl, ← zipL_both]; rfl
  · show e_law_back_2 ⟨[some (.int j), some (dNs (cl T w j))], al, [dPa pa]⟩ = some (if decide (0 ∈ cl T w j) then [.int j] else [], ⟨[some (.int j), some (dNs (cl T w j))], al, [dPa pa]⟩)
    unfold e_law_back_2
    refine filt_ev ?_ (fun _ => rfl)
    rw [bd_ev (a := .int ((0 : Nat) : Int)) (σ' := ⟨[some (.int j), some (dNs (cl T w j))], al, [dPa pa]⟩) rfl, bd_ev (rd_ev rfl), inD_ns]; rfl
theorem turn_end (hB : B.length ≤ 1000) : b_law_back_0 (bσ T st pc af B fo (some (dCl T w B)) tn ol on ot (cf [] b) pa) =
    some (.brk, bσ T st (some (.tup [dS [], dS []])) af B (some (dNs (B.filter fun j => decide (0 ∈ cl T w j)))) (some (dCl T w B)) tn ol on ot (cf [] b) pa) := by
  unfold b_law_back_0
  have e0 : x_law_back_5 (bσ T st pc af B fo (some (dCl T w B)) tn ol on ot (cf [] b) pa) = some (.tup [dS [], dS []], bσ T st pc af B fo (some (dCl T w B)) tn ol on ot (cf [] b) pa) := popN0 rfl
  have e1 : t_law_back_1 (bσ T st (some (.tup [dS [], dS []])) af B fo (some (dCl T w B)) tn ol on ot (cf [] b) pa) = some (true, bσ T st (some (.tup [dS [], dS []])) af B fo (some (dCl T w B)) tn ol on ot (cf [] b) pa) := emp_ev rfl emp_nil
  refine (sq_next (σ' := bσ T st (some (.tup [dS [], dS []])) af B fo (some (dCl T w B)) tn ol on ot (cf [] b) pa) (by rw [bd_ev e0]; rfl)).trans ?_
  refine sq_brk ?_
  rw [if_ev e1, if_pos rfl]
  exact (sq_next ((bd_ev (c_zero hB)).trans rfl)).trans rfl
theorem t_one {L : List Nat} (hL : L.length ≤ 1000000) : t_law_back_2 (bσ T st pc af B (some (dNs L)) pas tn ol on ot al pa) = some (decide (L.length = 1), bσ T st pc af B (some (dNs L)) pas tn ol on ot al pa) := by
  unfold t_law_back_2
  rw [bd_ev (a := .int (L.length : Nat)) (σ' := bσ T st pc af B (some (dNs L)) pas tn ol on ot al pa)]
  · rw [bd_ev (a := .int ((1 : Nat) : Int)) (σ' := bσ T st pc af B (some (dNs L)) pas tn ol on ot al pa) rfl, eqD_int]; rfl
  · rw [bd_ev (a := [dNs L]) (σ' := bσ T st pc af B (some (dNs L)) pas tn ol on ot al pa) rfl]
    unfold lenM lenD
    simp only [List.length_map]
    rw [if_pos hL]
theorem turn_x (hT : ∀ k q, T k q < 3) (hB : B.length ≤ 1000) (hx : x < 1114112) (ha : a.length < 900) (hb : b.length < 900) (hp : pa.length < 900) : b_law_back_0 (bσ T st pc af B fo (some (dCl T w B)) tn ol on ot (cf (x :: a) b) pa) =
    if (fnd T (x :: w) B).length = 1 then some (.brk, bσ T st (some (part (pc1 x))) (some (dAf (T (knd x)))) B (some (dNs (fnd T (x :: w) B))) (some (dCl T w B)) tn (some (dCl T (x :: w) B)) on ot (cf (x :: a) b) (pa ++ [a.length]))
    else some (.next, bσ T st (some (part (pc1 x))) (some (dAf (T (knd x)))) B (some (dNs (fnd T (x :: w) B))) (some (dCl T (x :: w) B)) tn (some (dCl T (x :: w) B)) on ot (cf a (x :: b)) (pa ++ [a.length])) := by
  unfold b_law_back_0
  have e0 : x_law_back_5 (bσ T st pc af B fo (some (dCl T w B)) tn ol on ot (cf (x :: a) b) pa) = some (part (pc1 x), bσ T st pc af B fo (some (dCl T w B)) tn ol on ot (cf a b) pa) := popN rfl (by omega)
  have e1 : t_law_back_1 (bσ T st (some (part (pc1 x))) af B fo (some (dCl T w B)) tn ol on ot (cf a b) pa) = some (false, bσ T st (some (part (pc1 x))) af B fo (some (dCl T w B)) tn ol on ot (cf a b) pa) := emp_ev rfl (emp_pc x hx)
  have e2 : x_law_back_6 (bσ T st (some (part (pc1 x))) af B fo (some (dCl T w B)) tn ol on ot (cf a b) pa) = some (.none, bσ T st (some (part (pc1 x))) af B fo (some (dCl T w B)) tn ol on ot (cf a (x :: b)) pa) := pushF rfl rfl (by omega)
  have e3 : x_law_back_7 (bσ T st (some (part (pc1 x))) af B fo (some (dCl T w B)) tn ol on ot (cf a (x :: b)) pa) = some (.none, bσ T st (some (part (pc1 x))) af B fo (some (dCl T w B)) tn ol on ot (cf a (x :: b)) (pa ++ [a.length])) := by
    unfold x_law_back_7
    rw [bd_ev (rd_ev rfl), if_pos (show isBox (D.box 0) = true from rfl), bd_ev (a := [.int (a.length : Nat)]) (σ' := bσ T st (some (part (pc1 x))) af B fo (some (dCl T w B)) tn ol on ot (cf a (x :: b)) pa) (by rw [bd_ev (cntN rfl)]; rfl)]
    unfold appM
    show (if (dPa pa).length < 1000000 then _ else none) = _
    rw [if_pos (by rw [List.length_map]; omega)]
    simp
  have e4 : x_law_back_8 (bσ T st (some (part (pc1 x))) af B fo (some (dCl T w B)) tn ol on ot (cf a (x :: b)) (pa ++ [a.length])) = some (dAf (T (knd x)), bσ T st (some (part (pc1 x))) af B fo (some (dCl T w B)) tn ol on ot (cf a (x :: b)) (pa ++ [a.length])) := kindX rfl rfl hx
  refine (sq_next (σ' := bσ T st (some (part (pc1 x))) af B fo (some (dCl T w B)) tn ol on ot (cf a b) pa) (by rw [bd_ev e0]; rfl)).trans ?_
  refine (sq_next (σ' := bσ T st (some (part (pc1 x))) af B fo (some (dCl T w B)) tn ol on ot (cf a b) pa) (by rw [if_ev e1]; rfl)).trans ?_
  refine (sq_next ((bd_ev e2).trans rfl)).trans ?_
  refine (sq_next ((bd_ev e3).trans rfl)).trans ?_
  refine (sq_next (σ' := bσ T st (some (part (pc1 x))) (some (dAf (T (knd x)))) B fo (some (dCl T w B)) tn ol on ot (cf a (x :: b)) (pa ++ [a.length])) ((bd_ev e4).trans rfl)).trans ?_
  refine (sq_next (σ' := bσ T st (some (part (pc1 x))) (some (dAf (T (knd x)))) B fo (some (dCl T w B)) tn (some (dCl T (x :: w) B)) on ot (cf a (x :: b)) (pa ++ [a.length])) ((bd_ev (c_older hT hB)).trans rfl)).trans ?_
  refine (sq_next (σ' := bσ T st (some (part (pc1 x))) (some (dAf (T (knd x)))) B (some (dNs (fnd T (x :: w) B))) (some (dCl T w B)) tn (some (dCl T (x :: w) B)) on ot (cf a (x :: b)) (pa ++ [a.length])) ((bd_ev (c_found hB)).trans rfl)).trans ?_
  have hf : (fnd T (x :: w) B).length ≤ 1000000 := Nat.le_trans (List.length_filter_le ..) (Nat.le_trans hB (by decide))
  by_cases h : (fnd T (x :: w) B).length = 1
  · rw [if_pos h]
    refine sq_brk ?_
    rw [if_ev (t_one hf), if_pos (by simpa using h)]
    have f1 : x_law_back_9 (bσ T st (some (part (pc1 x))) (some (dAf (T (knd x)))) B (some (dNs (fnd T (x :: w) B))) (some (dCl T w B)) tn (some (dCl T (x :: w) B)) on ot (cf a (x :: b)) (pa ++ [a.length])) = some (part (pc1 x), bσ T st (some (part (pc1 x))) (some (dAf (T (knd x)))) B (some (dNs (fnd T (x :: w) B))) (some (dCl T w B)) tn (some (dCl T (x :: w) B)) on ot (cf a b) (pa ++ [a.length])) := popF rfl (by omega)
    have f2 : x_law_back_10 (bσ T st (some (part (pc1 x))) (some (dAf (T (knd x)))) B (some (dNs (fnd T (x :: w) B))) (some (dCl T w B)) tn (some (dCl T (x :: w) B)) on ot (cf a b) (pa ++ [a.length])) = some (.none, bσ T st (some (part (pc1 x))) (some (dAf (T (knd x)))) B (some (dNs (fnd T (x :: w) B))) (some (dCl T w B)) tn (some (dCl T (x :: w) B)) on ot (cf (x :: a) b) (pa ++ [a.length])) := pushN rfl rfl (by omega)
    refine (sq_next (σ' := bσ T st (some (part (pc1 x))) (some (dAf (T (knd x)))) B (some (dNs (fnd T (x :: w) B))) (some (dCl T w B)) tn (some (dCl T (x :: w) B)) on ot (cf a b) (pa ++ [a.length])) ((bd_ev f1).trans rfl)).trans ?_
    exact (sq_next ((bd_ev f2).trans rfl)).trans rfl
  · rw [if_neg h]
    refine (sq_next (σ' := bσ T st (some (part (pc1 x))) (some (dAf (T (knd x)))) B (some (dNs (fnd T (x :: w) B))) (some (dCl T w B)) tn (some (dCl T (x :: w) B)) on ot (cf a (x :: b)) (pa ++ [a.length])) ?_).trans ?_
    · rw [if_ev (t_one hf), if_neg (by simpa using h)]; rfl
    · rw [sq_rt]; rfl
end
end Mine
end
section
open PySem PySem.W
set_option autoImplicit false
namespace Mine
theorem back_loop {T : Nat → Nat → Nat} (hT : ∀ k q, T k q < 3) {st j0 : Nat} {on ot : Option D} {B a0 b0 : List Nat} (hB : B.length ≤ 3) (hn : B.Nodup) (hj : j0 ∈ B) (hj0 : j0 = stA T a0) (hc : ∀ c ∈ a0, c < 1114112) (hz : a0.length + b0.length < 800) :
    ∀ (a1 w : List Nat) (ks : List D) (pc af fo tn ol : Option D) (pa : List Nat), w.reverse ++ a1 = a0 → 2 ≤ (fnd T w B).length → a1.length + 1 ≤ ks.length → pa.length + a1.length < 800 →
    ∃ a2 w2 pc2 af2 tn2 ol2 ps, w2.reverse ++ a2 = a0 ∧ 2 ≤ (fnd T w2 B).length ∧ ps.length ≤ a1.length ∧ (∀ k, ps.count k ≤ 1 ∧ (k ∈ ps → k < a1.length ∧ 2 ≤ (fnd T (a0.reverse.drop (k + 1)) B).length)) ∧
      loopM (fun d σ => some (wr 10 d σ)) b_law_back_0 o_law_back_0 ks (bσ T st pc af B fo (some (dCl T w B)) tn ol on ot (cf a1 (w ++ b0)) pa) =
        some (.next, bσ T st pc2 af2 B (some (dNs [j0])) (some (dCl T w2 B)) tn2 ol2 on ot (cf a2 (w2 ++ b0)) (pa ++ ps))
  | a1, w, [], pc, af, fo, tn, ol, pa, _, _, hk, _ => absurd hk (Nat.not_succ_le_zero _)
  | [], w, k :: ks, pc, af, fo, tn, ol, pa, hw, h2, hk, hp => by
    have e : rn T w 0 = j0 := by
      rw [hj0, ← hw, List.append_nil]
      have := stA_rn T w []
      rw [List.append_nil] at this
      exact this.symm
    refine ⟨[], w, some (.tup [dS [], dS []]), af, some k, ol, [], hw, h2, Nat.le_refl _, fun k => ⟨Nat.zero_le _, fun h => nomatch h⟩, ?_⟩
    have t := turn_end (T := T) (st := st) (pc := pc) (af := af) (fo := fo) (tn := some k) (ol := ol) (on := on) (ot := ot) (B := B) (w := w) (b := w ++ b0) (pa := pa) (Nat.le_trans hB (by decide))
    rw [zero_fd hn (e ▸ hj), e] at t
    refine (loop_brk (σ1 := bσ T st pc af B fo (some (dCl T w B)) (some k) ol on ot (cf [] (w ++ b0)) pa) rfl t).trans ?_
    rw [List.append_nil]
  | x :: a1, w, k :: ks, pc, af, fo, tn, ol, pa, hw, h2, hk, hp => by
    have hx : x < 1114112 := hc x (by rw [← hw]; simp)
    have hl : w.length + (a1.length + 1) = a0.length := by rw [← hw]; simp
    have t := turn_x (T := T) (st := st) (pc := pc) (af := af) (fo := fo) (tn := some k) (ol := ol) (on := on) (ot := ot) (B := B) (w := w) (a := a1) (b := w ++ b0) (pa := pa) (x := x) hT (Nat.le_trans hB (by decide)) hx (by omega) (by simp; omega) (by simp at hp; omega)
    have hd : a0.reverse.drop (a1.length + 1) = w := by
      rw [← hw, List.reverse_append, List.reverse_reverse, List.reverse_cons, List.append_assoc]
      rw [show a1.length + 1 = (a1.reverse ++ [x]).length by simp, ← List.append_assoc, List.drop_left]
    have hw' : (x :: w).reverse ++ a1 = a0 → True := fun _ => trivial
    by_cases h1 : (fnd T (x :: w) B).length = 1
    · rw [if_pos h1] at t
      have hj1 : j0 ∈ fnd T (x :: w) B := by
        have e : rn T (x :: w) (stA T a1) = j0 := by
          rw [hj0, ← hw]; exact (stA_rn T w (x :: a1)).symm
        rw [← e]
        exact own_fd hT (e ▸ hj)
      rw [one_of hj1 h1] at t
      refine ⟨x :: a1, w, some (part (pc1 x)), some (dAf (T (knd x))), some k, some (dCl T (x :: w) B), [a1.length], hw, h2, Nat.succ_le_succ (Nat.zero_le _), fun k => ⟨?_, fun h => ?_⟩, ?_⟩
      · exact Nat.le_trans List.count_le_length (Nat.le_refl _)
      · rw [List.mem_singleton] at h; subst h
        exact ⟨Nat.lt_succ_self _, by rw [hd]; exact h2⟩
      · exact loop_brk (σ1 := bσ T st pc af B fo (some (dCl T w B)) (some k) ol on ot (cf (x :: a1) (w ++ b0)) pa) rfl t
    · rw [if_neg h1] at t
      have hj1 : j0 ∈ fnd T (x :: w) B := by
        have e : rn T (x :: w) (stA T a1) = j0 := by
          rw [hj0, ← hw]; exact (stA_rn T w (x :: a1)).symm
        rw [← e]
        exact own_fd hT (e ▸ hj)
      have h3 : 2 ≤ (fnd T (x :: w) B).length := by
        have := List.length_pos_of_mem hj1
        omega
      obtain ⟨a2, w2, pc2, af2, tn2, ol2, ps, r1, r2, r0, r3, r4⟩ := back_loop (on := on) (ot := ot) (st := st) (b0 := b0) hT hB hn hj hj0 hc hz a1 (x :: w) ks (some (part (pc1 x))) (some (dAf (T (knd x)))) (some (dNs (fnd T (x :: w) B))) (some k) (some (dCl T (x :: w) B)) (pa ++ [a1.length]) (by rw [← hw]; simp) h3 (Nat.le_of_succ_le_succ hk) (by simp at hp ⊢; omega)
      refine ⟨a2, w2, pc2, af2, tn2, ol2, a1.length :: ps, r1, r2, Nat.succ_le_succ r0, fun k => ⟨?_, fun h => ?_⟩, ?_⟩
      · rw [List.count_cons]
        by_cases e : a1.length = k
        · have : ps.count k = 0 := List.count_eq_zero.mpr fun hm => Nat.lt_irrefl _ (Nat.lt_of_lt_of_le ((r3 k).2 hm).1 (Nat.le_of_eq e))
          rw [this]; split <;> decide
        · rw [if_neg (by simpa using e)]; exact (r3 k).1
      · rcases List.mem_cons.mp h with rfl | h
        · exact ⟨Nat.lt_succ_self _, by rw [hd]; exact h2⟩
        · exact ⟨Nat.lt_succ_of_lt ((r3 k).2 h).1, ((r3 k).2 h).2⟩
      · refine (loop_next (σ1 := bσ T st pc af B fo (some (dCl T w B)) (some k) ol on ot (cf (x :: a1) (w ++ b0)) pa) rfl t).trans (r4.trans ?_)
        simp
section
variable {T : Nat → Nat → Nat} {st : Nat} {pc af fo pas tn ol : Option D} {B pa : List Nat}
theorem gtD_nat (n : Nat) : gtD (.int (n : Int)) (.int 0) = some (decide (0 < n)) := by
  show some (decide ((0 : Int) < (n : Int))) = _
  congr 1
  exact decide_eq_decide.mpr (by omega)
theorem t_fw {p q : Nat} {a b : List Nat} : t_law_back_3 (bσ T st pc af B fo pas tn ol (some (.int p)) (some (.int q)) (cf a b) pa) = some (!decide (p = q) && decide (0 < b.length), bσ T st pc af B fo pas tn ol (some (.int p)) (some (.int q)) (cf a b) pa) := by
  unfold t_law_back_3
  have e : (bd (rd 12) fun a => bd (rd 13) fun b => lf (neD a b)) (bσ T st pc af B fo pas tn ol (some (.int p)) (some (.int q)) (cf a b) pa) = some (!decide (p = q), bσ T st pc af B fo pas tn ol (some (.int p)) (some (.int q)) (cf a b) pa) := by
    rw [bd_ev (rd_ev rfl), bd_ev (rd_ev rfl), neD_int]; rfl
  rw [bd_ev e]
  by_cases h : p = q
  · simp [h]; rfl
  · rw [decide_eq_false h, if_pos (by decide), bd_ev (cntF rfl), bd_ev (a := .int 0) (σ' := bσ T st pc af B fo pas tn ol (some (.int p)) (some (.int q)) (cf a b) pa) rfl, gtD_nat]
    simp; rfl
theorem b_fw {p q x : Nat} {a b : List Nat} (hp : p < 3) (hq : q < 3) (hx : x < 1114112) (ha : a.length < 900) (hb : b.length < 900) : b_law_back_1 (bσ T st pc af B fo pas tn ol (some (.int p)) (some (.int q)) (cf a (x :: b)) pa) =
    some (.next, bσ T st (some (part (pc1 x))) (some (dAf (T (knd x)))) B fo pas tn ol (some (.int (T (knd x) p : Nat))) (some (.int (T (knd x) q : Nat))) (cf (x :: a) b) pa) := by
  unfold b_law_back_1
  have e0 : x_law_back_13 (bσ T st pc af B fo pas tn ol (some (.int p)) (some (.int q)) (cf a (x :: b)) pa) = some (part (pc1 x), bσ T st pc af B fo pas tn ol (some (.int p)) (some (.int q)) (cf a b) pa) := popF rfl (by omega)
  have e1 : x_law_back_14 (bσ T st (some (part (pc1 x))) af B fo pas tn ol (some (.int p)) (some (.int q)) (cf a b) pa) = some (.none, bσ T st (some (part (pc1 x))) af B fo pas tn ol (some (.int p)) (some (.int q)) (cf (x :: a) b) pa) := pushN rfl rfl (by omega)
  have e2 : x_law_back_15 (bσ T st (some (part (pc1 x))) af B fo pas tn ol (some (.int p)) (some (.int q)) (cf (x :: a) b) pa) = some (dAf (T (knd x)), bσ T st (some (part (pc1 x))) af B fo pas tn ol (some (.int p)) (some (.int q)) (cf (x :: a) b) pa) := kindX rfl rfl hx
  have e3 : x_law_back_16 (bσ T st (some (part (pc1 x))) (some (dAf (T (knd x)))) B fo pas tn ol (some (.int p)) (some (.int q)) (cf (x :: a) b) pa) = some (.tup [.int (T (knd x) p : Nat), .int (T (knd x) q : Nat)], bσ T st (some (part (pc1 x))) (some (dAf (T (knd x)))) B fo pas tn ol (some (.int p)) (some (.int q)) (cf (x :: a) b) pa) := by
    generalize hσ : bσ T st (some (part (pc1 x))) (some (dAf (T (knd x)))) B fo pas tn ol (some (.int p)) (some (.int q)) (cf (x :: a) b) pa = σ
    have v5 : σ.v[5]? = some (some (dAf (T (knd x)))) := by rw [← hσ]; rfl
    have v12 : σ.v[12]? = some (some (.int p)) := by rw [← hσ]; rfl
    have v13 : σ.v[13]? = some (some (.int q)) := by rw [← hσ]; rfl
    unfold x_law_back_16
    have i1 : (bd (rd 5) fun a => bd (rd 12) fun b => fun σ => (itemD σ.b a b).map fun d => (d, σ)) σ = some (.int (T (knd x) p : Nat), σ) := by
      rw [bd_ev (rd_ev v5), bd_ev (rd_ev v12)]
      rw [item_af _ _ hp]; rfl
    have i2 : (bd (rd 5) fun a => bd (rd 13) fun b => fun σ => (itemD σ.b a b).map fun d => (d, σ)) σ = some (.int (T (knd x) q : Nat), σ) := by
      rw [bd_ev (rd_ev v5), bd_ev (rd_ev v13)]
      rw [item_af _ _ hq]; rfl
    rw [bd_ev (a := [.int (T (knd x) p : Nat), .int (T (knd x) q : Nat)]) (σ' := σ)]
    · rfl
    · rw [bd_ev i1, bd_ev (a := [.int (T (knd x) q : Nat)]) (σ' := σ) (by rw [bd_ev i2]; rfl)]; rfl
  refine (sq_next ((bd_ev e0).trans rfl)).trans ?_
  refine (sq_next ((bd_ev e1).trans rfl)).trans ?_
  refine (sq_next ((bd_ev e2).trans rfl)).trans ?_
  rw [sq_rt]
  exact (bd_ev e3).trans rfl
theorem while_f {t : Mx Bool} {b : Mx Fl} {n : Nat} {σ σ' : MS} (h : t σ = some (false, σ')) : whileM t b (n + 1) σ = some (.next, σ') := by unfold whileM; rw [h]
theorem while_t {t : Mx Bool} {b : Mx Fl} {n : Nat} {σ σ1 σ2 : MS} (h : t σ = some (true, σ1)) (h2 : b σ1 = some (.next, σ2)) : whileM t b (n + 1) σ = whileM t b n σ2 := by
  rw [whileM.eq_2]; simp only [h, h2]
theorem fw_loop (hT : ∀ k q, T k q < 3) {c : Nat} {b0 : List Nat} (hcc : c < 1114112) : ∀ (w a : List Nat) (p q n : Nat) (pc af : Option D), p < 3 → q < 3 → rn T w p ≠ rn T w q → T (knd c) (rn T w p) = T (knd c) (rn T w q) → (∀ x ∈ w, x < 1114112) → w.length + 2 ≤ n → a.length + w.length + b0.length < 800 →
    ∃ pc2 af2 r, whileM t_law_back_3 b_law_back_1 n (bσ T st pc af B fo pas tn ol (some (.int p)) (some (.int q)) (cf a (w ++ c :: b0)) pa) = some (.next, bσ T st pc2 af2 B fo pas tn ol (some (.int (r : Nat))) (some (.int (r : Nat))) (cf (c :: (w.reverse ++ a)) b0) pa)
  | [], a, p, q, n + 2, pc, af, hp, hq, hne, heq, hx, hn, hz => by
    refine ⟨some (part (pc1 c)), some (dAf (T (knd c))), T (knd c) p, ?_⟩
    have hne : p ≠ q := hne
    have heq : T (knd c) p = T (knd c) q := heq
    have hb := b_fw (T := T) (st := st) (pc := pc) (af := af) (fo := fo) (pas := pas) (tn := tn) (ol := ol) (B := B) (pa := pa) (a := a) (b := b0) hp hq hcc (by simp at hz; omega) (by simp at hz; omega)
    have t1 := t_fw (T := T) (st := st) (pc := pc) (af := af) (fo := fo) (pas := pas) (tn := tn) (ol := ol) (B := B) (pa := pa) (p := p) (q := q) (a := a) (b := c :: b0)
    rw [decide_eq_false hne, decide_eq_true (show 0 < (c :: b0).length from Nat.succ_pos _)] at t1
    rw [← heq] at hb
    have t2 := t_fw (T := T) (st := st) (pc := some (part (pc1 c))) (af := some (dAf (T (knd c)))) (fo := fo) (pas := pas) (tn := tn) (ol := ol) (B := B) (pa := pa) (p := T (knd c) p) (q := T (knd c) p) (a := c :: a) (b := b0)
    rw [decide_eq_true (show T (knd c) p = T (knd c) p from rfl)] at t2
    exact (while_t t1 hb).trans (while_f t2)
  | x :: w, a, p, q, n + 1, pc, af, hp, hq, hne, heq, hx, hn, hz => by
    have hpq : p ≠ q := fun e => hne (by rw [e])
    obtain ⟨pc2, af2, r, h⟩ := fw_loop (b0 := b0) hT hcc w (x :: a) (T (knd x) p) (T (knd x) q) n (some (part (pc1 x))) (some (dAf (T (knd x)))) (hT _ _) (hT _ _) hne heq (fun y hy => hx y (.tail _ hy)) (by simp at hn; omega) (by simp at hz ⊢; omega)
    have hb := b_fw (T := T) (st := st) (pc := pc) (af := af) (fo := fo) (pas := pas) (tn := tn) (ol := ol) (B := B) (pa := pa) (a := a) (b := w ++ c :: b0) hp hq (hx x (.head _)) (by simp at hz; omega) (by simp at hz ⊢; omega)
    have t1 := t_fw (T := T) (st := st) (pc := pc) (af := af) (fo := fo) (pas := pas) (tn := tn) (ol := ol) (B := B) (pa := pa) (p := p) (q := q) (a := a) (b := x :: w ++ c :: b0)
    rw [decide_eq_false hpq, decide_eq_true (show 0 < (x :: w ++ c :: b0).length from Nat.succ_pos _)] at t1
    refine ⟨pc2, af2, r, (while_t t1 hb).trans (h.trans ?_)⟩
    rw [List.reverse_cons, List.append_assoc]; rfl
end
end Mine
end
section
open PySem PySem.W
set_option autoImplicit false
namespace Mine
theorem range_len : ∀ n, n < 100 → (rangeL 0 ((n : Nat) : Int) 1).map (·.length) = some n := by decide +kernel
theorem range_some (n : Nat) (h : n < 100) : ∃ ks : List D, rangeL 0 (n : Int) 1 = some ks ∧ ks.length = n := by
  have := range_len n h
  obtain ⟨ks, h1, h2⟩ := Option.map_eq_some_iff.mp this
  exact ⟨ks, h1, h2⟩
theorem noBs_ns (l : List Nat) : noBs (dPa l) = true := noBs_map _ (fun _ => rfl) _
theorem frz_back (F ps : List Nat) : frz [dPa ps] (.tup [dNs F, .box 0]) = some (.tup [dNs F, dNs ps]) := by
  have h1 : frz [dPa ps] (dNs F) = some (dNs F) := frz_noB _ _ (by unfold noB; exact noBs_ns F)
  have h2 : frz [dPa ps] (.box 0) = some (dNs ps) := by
    unfold frz
    show (if noBs (dPa ps) = true then some (D.lst (dPa ps)) else none) = _
    rw [if_pos (noBs_ns ps)]
  unfold frz frzs frzs frzs
  rw [h1, h2]; rfl
noncomputable abbrev hd (l : List Nat) : Nat := l.headD 0
section
variable {T : Nat → Nat → Nat} {st : Nat} {pc af fo pas tn ol on ot : Option D} {B w a b pa : List Nat} {al : List Acc}
theorem c_heads (hB : B.length ≤ 1000) : compM 1 [] (bd (rd 9) fun d => lf (itM false d)) (fun d σ => some (wr 0 d σ)) e_law_back_6 (bσ T st pc af B fo (some (dCl T w B)) tn ol on ot al pa) = some (.lst ((fnd T w B).map fun j => .int (hd (cl T w j) : Nat)), bσ T st pc af B fo (some (dCl T w B)) tn ol on ot al pa) := by
  refine comp1 (fun j => dNs (cl T w j)) (fun j => .int (hd (cl T w j) : Nat)) (fun j => decide (cl T w j ≠ [])) B rfl (fun j hj => ?_) (Nat.le_trans hB (by decide))
  show e_law_back_6 ⟨[some (dNs (cl T w j))], al, [dPa pa]⟩ = some (if decide (cl T w j ≠ []) then [.int (hd (cl T w j) : Nat)] else [], ⟨[some (dNs (cl T w j))], al, [dPa pa]⟩)
  unfold e_law_back_6
  refine filt_ev ?_ (fun h => ?_)
  · rw [bd_ev (rd_ev rfl), bd_ev (a := .lst []) (σ' := ⟨[some (dNs (cl T w j))], al, [dPa pa]⟩) rfl, neD_nil]; rfl
  · have h : cl T w j ≠ [] := by simpa using h
    rw [bd_ev (rd_ev rfl), bd_ev (a := .int ((0 : Nat) : Int)) (σ' := ⟨[some (dNs (cl T w j))], al, [dPa pa]⟩) rfl]
    have : itemD [dPa pa] (dNs (cl T w j)) (.int ((0 : Nat) : Int)) = some (.int (hd (cl T w j) : Nat)) := by
      refine itemL_nat ?_ (by decide)
      match cl T w j, h with
      | q :: l, _ => rfl
    rw [this]; rfl
end
theorem sp_back {T : Nat → Nat → Nat} (hT : ∀ k q, T k q < 3) (c : Nat) (a0 b : List Nat) (hcc : c < 1114112) (hc : ∀ x ∈ a0, x < 1114112) (hz : a0.length + b.length < 90) :
    ∃ ps, p_law_back [dTu T, .acc 0, .acc 1, .int (stA T (c :: a0) : Nat)] (cf (c :: a0) b) = some (.tup [dNs [stA T a0], dNs ps], cf a0 (c :: b)) ∧ Pass T c a0 ps ∧ ps.length ≤ a0.length := by
  generalize hst : stA T (c :: a0) = st
  let B := bf T c st
  have hB3 : ∀ j ∈ B, j < 3 := fun j h => (mem_bf.mp h).1
  have hBl : B.length ≤ 3 := Nat.le_trans (List.length_filter_le ..) (by rw [List.length_range]; exact Nat.le_refl _)
  have hj : stA T a0 ∈ B := mem_bf.mpr ⟨stA_lt hT a0, hst⟩
  let iσ (pc af bf fo pa pas : Option D) (al : List Acc) (bx : List (List D)) : MS := ⟨[some (dTu T), some (.acc 0), some (.acc 1), some (.int st), pc, af, bf, fo, pa, pas, none, none, none, none], al, bx⟩
  have s0 : s_law_back_0 (iσ none none none none none none (cf (c :: a0) b) []) = some (.next, iσ (some (part (pc1 c))) none none none none none (cf a0 b) []) := by
    have : x_law_back_0 (iσ none none none none none none (cf (c :: a0) b) []) = some (part (pc1 c), iσ none none none none none none (cf a0 b) []) := popN rfl (by omega)
    exact (bd_ev this).trans rfl
  have s1 : s_law_back_1 (iσ (some (part (pc1 c))) none none none none none (cf a0 b) []) = some (.next, iσ (some (part (pc1 c))) none none none none none (cf a0 (c :: b)) []) := by
    have : x_law_back_1 (iσ (some (part (pc1 c))) none none none none none (cf a0 b) []) = some (.none, iσ (some (part (pc1 c))) none none none none none (cf a0 (c :: b)) []) := pushF rfl rfl (by omega)
    exact (bd_ev this).trans rfl
  have s2 : s_law_back_2 (iσ (some (part (pc1 c))) none none none none none (cf a0 (c :: b)) []) = some (.next, iσ (some (part (pc1 c))) (some (dAf (T (knd c)))) none none none none (cf a0 (c :: b)) []) := by
    have : x_law_back_2 (iσ (some (part (pc1 c))) none none none none none (cf a0 (c :: b)) []) = some (dAf (T (knd c)), iσ (some (part (pc1 c))) none none none none none (cf a0 (c :: b)) []) := kindX rfl rfl hcc
    exact (bd_ev this).trans rfl
  have s3 : s_law_back_3 (iσ (some (part (pc1 c))) (some (dAf (T (knd c)))) none none none none (cf a0 (c :: b)) []) = some (.next, iσ (some (part (pc1 c))) (some (dAf (T (knd c)))) (some (dNs B)) none none none (cf a0 (c :: b)) []) := by
    unfold s_law_back_3
    have h := comp1 (is := [5, 3]) (σ := iσ (some (part (pc1 c))) (some (dAf (T (knd c)))) none none none none (cf a0 (c :: b)) []) (m := e_law_back_0) (fun (q : Nat) => D.int (q : Int)) (fun (q : Nat) => D.int (q : Int)) (fun q => decide (T (knd c) q = st)) (List.range 3) r3_ev (fun q hq => by
      show e_law_back_0 ⟨[some (.int q), some (dAf (T (knd c))), some (.int st)], cf a0 (c :: b), []⟩ = some (if decide (T (knd c) q = st) then [.int q] else [], ⟨[some (.int q), some (dAf (T (knd c))), some (.int st)], cf a0 (c :: b), []⟩)
      unfold e_law_back_0
      refine filt_ev ?_ (fun _ => rfl)
      rw [bd_ev (a := .int (T (knd c) q : Nat)) (σ' := ⟨[some (.int q), some (dAf (T (knd c))), some (.int st)], cf a0 (c :: b), []⟩)]
      · rw [bd_ev (rd_ev rfl), eqD_int]; rfl
      · rw [bd_ev (rd_ev rfl), bd_ev (rd_ev rfl)]
        dsimp only
        rw [item_af _ _ (List.mem_range.mp hq)]; rfl) (by decide)
    exact (bd_ev h).trans rfl
  have s4 : s_law_back_4 (iσ (some (part (pc1 c))) (some (dAf (T (knd c)))) (some (dNs B)) none none none (cf a0 (c :: b)) []) = some (.next, bσ T st (some (part (pc1 c))) (some (dAf (T (knd c)))) B (some (dNs B)) (some (dCl T [] B)) none none none none (cf a0 (c :: b)) []) := by
    unfold s_law_back_4
    have h := comp1 (is := []) (σ := iσ (some (part (pc1 c))) (some (dAf (T (knd c)))) (some (dNs B)) none none none (cf a0 (c :: b)) [[]]) (mi := bd (rd 6) fun d => lf (itM false d)) (m := e_law_back_1) (fun (q : Nat) => D.int (q : Int)) (fun (q : Nat) => dNs [q]) (fun _ => true) B rfl (fun q _ => rfl) (Nat.le_trans hBl (by decide))
    rw [filt_true] at h
    have e : (B.map fun q => dNs [q]) = B.map fun j => dNs (cl T [] j) := List.map_congr_left fun j hj => by rw [cl_nil (hB3 j hj)]
    rw [e] at h
    have : x_law_back_3 (iσ (some (part (pc1 c))) (some (dAf (T (knd c)))) (some (dNs B)) none none none (cf a0 (c :: b)) []) = some (.tup [dNs B, .box 0, dCl T [] B], iσ (some (part (pc1 c))) (some (dAf (T (knd c)))) (some (dNs B)) none none none (cf a0 (c :: b)) [[]]) := by
      unfold x_law_back_3
      rw [bd_ev (a := [dNs B, .box 0, dCl T [] B]) (σ' := iσ (some (part (pc1 c))) (some (dAf (T (knd c)))) (some (dNs B)) none none none (cf a0 (c :: b)) [[]])]
      · rfl
      · rw [bd_ev (a := dNs B) (σ' := iσ (some (part (pc1 c))) (some (dAf (T (knd c)))) (some (dNs B)) none none none (cf a0 (c :: b)) []) rfl, bd_ev (a := [.box 0, dCl T [] B]) (σ' := iσ (some (part (pc1 c))) (some (dAf (T (knd c)))) (some (dNs B)) none none none (cf a0 (c :: b)) [[]])]
        · rfl
        · rw [bd_ev (a := .box 0) (σ' := iσ (some (part (pc1 c))) (some (dAf (T (knd c)))) (some (dNs B)) none none none (cf a0 (c :: b)) [[]]) rfl, bd_ev (a := [dCl T [] B]) (σ' := iσ (some (part (pc1 c))) (some (dAf (T (knd c)))) (some (dNs B)) none none none (cf a0 (c :: b)) [[]]) (by rw [bd_ev h]; rfl)]
          rfl
    rw [bd_ev this]; rfl
  have pre : ∀ r, sq s_law_back_5 (sq s_law_back_6 (sq s_law_back_7 (sq s_law_back_8 (sq s_law_back_9 (sq s_law_back_10 (sq s_law_back_11 (rt .next))))))) (bσ T st (some (part (pc1 c))) (some (dAf (T (knd c)))) B (some (dNs B)) (some (dCl T [] B)) none none none none (cf a0 (c :: b)) []) = r → m_law_back (iσ none none none none none none (cf (c :: a0) b) []) = r := by
    intro r hr
    unfold m_law_back
    rw [sq_next s0, sq_next s1, sq_next s2, sq_next s3, sq_next s4, hr]
  have t5 : t_law_back_0 (bσ T st (some (part (pc1 c))) (some (dAf (T (knd c)))) B (some (dNs B)) (some (dCl T [] B)) none none none none (cf a0 (c :: b)) []) = some (decide (B.length < 2), bσ T st (some (part (pc1 c))) (some (dAf (T (knd c)))) B (some (dNs B)) (some (dCl T [] B)) none none none none (cf a0 (c :: b)) []) := by
    unfold t_law_back_0
    rw [bd_ev (a := .int (B.length : Nat)) (σ' := bσ T st (some (part (pc1 c))) (some (dAf (T (knd c)))) B (some (dNs B)) (some (dCl T [] B)) none none none none (cf a0 (c :: b)) [])]
    · rw [bd_ev (a := .int 2) (σ' := bσ T st (some (part (pc1 c))) (some (dAf (T (knd c)))) B (some (dNs B)) (some (dCl T [] B)) none none none none (cf a0 (c :: b)) []) rfl]
      have : ltD (.int (B.length : Nat)) (.int 2) = some (decide (B.length < 2)) := by
        show some (decide ((B.length : Int) < (2 : Int))) = _
        congr 1
        exact decide_eq_decide.mpr (by omega)
      rw [this]; rfl
    · rw [bd_ev (a := [dNs B]) (σ' := bσ T st (some (part (pc1 c))) (some (dAf (T (knd c)))) B (some (dNs B)) (some (dCl T [] B)) none none none none (cf a0 (c :: b)) []) rfl]
      unfold lenM lenD
      simp only [List.length_map]
      rw [if_pos (Nat.le_trans hBl (by decide))]
  have ini : (⟨([dTu T, .acc 0, .acc 1, .int (st : Nat)] : List D).map some ++ List.replicate (14 - 4) none, cf (c :: a0) b, []⟩ : MS) = iσ none none none none none none (cf (c :: a0) b) [] := rfl
  by_cases h2 : B.length < 2
  · have h1 : B = [stA T a0] := one_of hj (by have := List.length_pos_of_mem hj; omega)
    have hm := pre _ (sq_ret (σ' := bσ T st (some (part (pc1 c))) (some (dAf (T (knd c)))) B (some (dNs B)) (some (dCl T [] B)) none none none none (cf a0 (c :: b)) []) (d := .tup [dNs B, .box 0]) (by
      unfold s_law_back_5
      rw [if_ev t5, if_pos (by simpa using h2), sq_rt]; rfl))
    refine ⟨[], ?_, fun k => ⟨Nat.zero_le _, fun h => nomatch h⟩, Nat.zero_le _⟩
    rw [← h1]
    exact fnP_ret (n := 4) (N := 14) (ds := [dTu T, .acc 0, .acc 1, .int (st : Nat)]) rfl (by rw [ini]; exact hm) (frz_back B [])
  · obtain ⟨ks, hk1, hk2⟩ := range_some (a0.length + 1) (by omega)
    obtain ⟨a2, w2, pc2, af2, tn2, ol2, ps, r1, r2, r0, r3, r4⟩ := back_loop hT (st := st) (on := none) (ot := none) (b0 := c :: b) (a0 := a0) hBl bf_nodup hj rfl hc (by simp; omega) a0 [] ks (some (part (pc1 c))) (some (dAf (T (knd c)))) (some (dNs B)) none none [] rfl (by rw [fnd_nil hB3]; omega) (Nat.le_of_eq hk2.symm) (by simp; omega)
    have hlen : w2.length + a2.length = a0.length := by rw [← r1]; simp
    have s5 : s_law_back_5 (bσ T st (some (part (pc1 c))) (some (dAf (T (knd c)))) B (some (dNs B)) (some (dCl T [] B)) none none none none (cf a0 (c :: b)) []) = some (.next, bσ T st (some (part (pc1 c))) (some (dAf (T (knd c)))) B (some (dNs B)) (some (dCl T [] B)) none none none none (cf a0 (c :: b)) []) := by
      unfold s_law_back_5
      rw [if_ev t5, if_neg (by simpa using h2)]; rfl
    have s6 : s_law_back_6 (bσ T st (some (part (pc1 c))) (some (dAf (T (knd c)))) B (some (dNs B)) (some (dCl T [] B)) none none none none (cf a0 (c :: b)) []) = some (.next, bσ T st pc2 af2 B (some (dNs [stA T a0])) (some (dCl T w2 B)) tn2 ol2 none none (cf a2 (w2 ++ c :: b)) ([] ++ ps)) := by
      unfold s_law_back_6
      have hi : i_law_back_0 (bσ T st (some (part (pc1 c))) (some (dAf (T (knd c)))) B (some (dNs B)) (some (dCl T [] B)) none none none none (cf a0 (c :: b)) []) = some (ks, bσ T st (some (part (pc1 c))) (some (dAf (T (knd c)))) B (some (dNs B)) (some (dCl T [] B)) none none none none (cf a0 (c :: b)) []) := by
        unfold i_law_back_0
        rw [bd_ev (a := [.int ((a0.length + 1 : Nat) : Int)]) (σ' := bσ T st (some (part (pc1 c))) (some (dAf (T (knd c)))) B (some (dNs B)) (some (dCl T [] B)) none none none none (cf a0 (c :: b)) [])]
        · show lf (rangeL 0 ((a0.length + 1 : Nat) : Int) 1) _ = _
          rw [hk1]; rfl
        · rw [bd_ev (a := .int ((a0.length + 1 : Nat) : Int)) (σ' := bσ T st (some (part (pc1 c))) (some (dAf (T (knd c)))) B (some (dNs B)) (some (dCl T [] B)) none none none none (cf a0 (c :: b)) [])]
          · rfl
          · rw [bd_ev (cntN rfl)]; rfl
      rw [bd_ev hi]
      exact r4
    rw [List.nil_append] at s6
    obtain ⟨j1, j2, rr, ej, hne⟩ := two_of r2 (fnd_nodup bf_nodup)
    have hj1 : j1 ∈ fnd T w2 B := by rw [ej]; exact .head _
    have hj2 : j2 ∈ fnd T w2 B := by rw [ej]; exact .tail _ (.head _)
    rw [mem_fnd] at hj1 hj2
    have head_mem : ∀ {l : List Nat}, l ≠ [] → hd l ∈ l := fun {l} h => by
      match l, h with
      | q :: l, _ => exact .head _
    have q1 := mem_cl.mp (head_mem hj1.2)
    have q2 := mem_cl.mp (head_mem hj2.2)
    have s7 : s_law_back_7 (bσ T st pc2 af2 B (some (dNs [stA T a0])) (some (dCl T w2 B)) tn2 ol2 none none (cf a2 (w2 ++ c :: b)) ps) = some (.next, bσ T st pc2 af2 B (some (dNs [stA T a0])) (some (dCl T w2 B)) tn2 ol2 (some (.int (hd (cl T w2 j1) : Nat))) (some (.int (hd (cl T w2 j2) : Nat))) (cf a2 (w2 ++ c :: b)) ps) := by
      unfold s_law_back_7
      have : x_law_back_12 (bσ T st pc2 af2 B (some (dNs [stA T a0])) (some (dCl T w2 B)) tn2 ol2 none none (cf a2 (w2 ++ c :: b)) ps) = some (.lst [.int (hd (cl T w2 j1) : Nat), .int (hd (cl T w2 j2) : Nat)], bσ T st pc2 af2 B (some (dNs [stA T a0])) (some (dCl T w2 B)) tn2 ol2 none none (cf a2 (w2 ++ c :: b)) ps) := by
        generalize hσ : bσ T st pc2 af2 B (some (dNs [stA T a0])) (some (dCl T w2 B)) tn2 ol2 none none (cf a2 (w2 ++ c :: b)) ps = σ
        have hc := c_heads (T := T) (st := st) (pc := pc2) (af := af2) (fo := some (dNs [stA T a0])) (tn := tn2) (ol := ol2) (on := none) (ot := none) (B := B) (w := w2) (pa := ps) (al := cf a2 (w2 ++ c :: b)) (Nat.le_trans hBl (by decide))
        rw [hσ] at hc
        unfold x_law_back_12
        rw [bd_ev hc, bd_ev (a := none) (σ' := σ) rfl, bd_ev (a := some 2) (σ' := σ) rfl, bd_ev (a := none) (σ' := σ) rfl]
        have : sliceD σ.b none (some 2) none (.lst ((fnd T w2 B).map fun j => .int (hd (cl T w2 j) : Nat))) = some (.lst [.int (hd (cl T w2 j1) : Nat), .int (hd (cl T w2 j2) : Nat)]) := by
          unfold sliceD
          dsimp only
          rw [if_pos ⟨by rw [List.length_map]; exact Nat.le_trans (List.length_filter_le ..) (Nat.le_trans hBl (by decide)), by simp⟩]
          have := pickL_take ((fnd T w2 B).map fun j => D.int (hd (cl T w2 j) : Nat)) 2
          rw [show ((2 : Nat) : Int) = 2 from rfl] at this
          rw [this, ej]; rfl
        rw [this]; rfl
      rw [bd_ev this]; rfl
    obtain ⟨pc3, af3, r, hw⟩ := fw_loop hT (st := st) (fo := some (dNs [stA T a0])) (pas := some (dCl T w2 B)) (tn := tn2) (ol := ol2) (B := B) (pa := ps) (b0 := b) hcc w2 a2 (hd (cl T w2 j1)) (hd (cl T w2 j2)) 100 pc2 af2 q1.1 q2.1 (by rw [q1.2, q2.2]; exact hne) (by rw [q1.2, q2.2, (mem_bf.mp hj1.1).2, (mem_bf.mp hj2.1).2]) (fun x hx => hc x (by rw [← r1]; simp [hx])) (by omega) (by omega)
    rw [r1] at hw
    have s8 : s_law_back_8 (bσ T st pc2 af2 B (some (dNs [stA T a0])) (some (dCl T w2 B)) tn2 ol2 (some (.int (hd (cl T w2 j1) : Nat))) (some (.int (hd (cl T w2 j2) : Nat))) (cf a2 (w2 ++ c :: b)) ps) = some (.next, bσ T st pc3 af3 B (some (dNs [stA T a0])) (some (dCl T w2 B)) tn2 ol2 (some (.int (r : Nat))) (some (.int (r : Nat))) (cf (c :: a0) b) ps) := hw
    have s9 : s_law_back_9 (bσ T st pc3 af3 B (some (dNs [stA T a0])) (some (dCl T w2 B)) tn2 ol2 (some (.int (r : Nat))) (some (.int (r : Nat))) (cf (c :: a0) b) ps) = some (.next, bσ T st (some (part (pc1 c))) af3 B (some (dNs [stA T a0])) (some (dCl T w2 B)) tn2 ol2 (some (.int (r : Nat))) (some (.int (r : Nat))) (cf a0 b) ps) := by
      have : x_law_back_17 (bσ T st pc3 af3 B (some (dNs [stA T a0])) (some (dCl T w2 B)) tn2 ol2 (some (.int (r : Nat))) (some (.int (r : Nat))) (cf (c :: a0) b) ps) = some (part (pc1 c), bσ T st pc3 af3 B (some (dNs [stA T a0])) (some (dCl T w2 B)) tn2 ol2 (some (.int (r : Nat))) (some (.int (r : Nat))) (cf a0 b) ps) := popN rfl (by omega)
      exact (bd_ev this).trans rfl
    have s10 : s_law_back_10 (bσ T st (some (part (pc1 c))) af3 B (some (dNs [stA T a0])) (some (dCl T w2 B)) tn2 ol2 (some (.int (r : Nat))) (some (.int (r : Nat))) (cf a0 b) ps) = some (.next, bσ T st (some (part (pc1 c))) af3 B (some (dNs [stA T a0])) (some (dCl T w2 B)) tn2 ol2 (some (.int (r : Nat))) (some (.int (r : Nat))) (cf a0 (c :: b)) ps) := by
      have : x_law_back_18 (bσ T st (some (part (pc1 c))) af3 B (some (dNs [stA T a0])) (some (dCl T w2 B)) tn2 ol2 (some (.int (r : Nat))) (some (.int (r : Nat))) (cf a0 b) ps) = some (.none, bσ T st (some (part (pc1 c))) af3 B (some (dNs [stA T a0])) (some (dCl T w2 B)) tn2 ol2 (some (.int (r : Nat))) (some (.int (r : Nat))) (cf a0 (c :: b)) ps) := pushF rfl rfl (by omega)
      exact (bd_ev this).trans rfl
    have hm := pre (some (.ret (.tup [dNs [stA T a0], .box 0]), bσ T st (some (part (pc1 c))) af3 B (some (dNs [stA T a0])) (some (dCl T w2 B)) tn2 ol2 (some (.int (r : Nat))) (some (.int (r : Nat))) (cf a0 (c :: b)) ps)) (by
      rw [sq_next s5, sq_next s6, sq_next s7, sq_next s8, sq_next s9, sq_next s10, sq_rt]; rfl)
    refine ⟨ps, ?_, fun k => ⟨(r3 k).1, fun h => ?_⟩, r0⟩
    · exact fnP_ret (n := 4) (N := 14) (ds := [dTu T, .acc 0, .acc 1, .int (st : Nat)]) rfl (by rw [ini]; exact hm) (frz_back _ ps)
    · rw [hst]; exact (r3 k).2 h
end Mine
end
section
open PySem PySem.W
set_option autoImplicit false
namespace Mine
theorem sp_pop_from {al : List Acc} {j i : Nat} {A : Acc} {ds : List D} (hd : exPF ds = some [.acc j, .int (i : Int)]) (h : al[j]? = some A) (hi : i ≤ A.2.length) (hz : A.2.length ≤ 1000) : p_pop_from ds al = some (.lst ((A.2.drop i).map part), al.set j (A.1, A.2.take i)) := by
  unfold p_pop_from exP
  rw [hd]
  dsimp only
  have e1 : (bd (bd (rd 0) fun a => bd (bd (rd 1) fun d => lf (asI d)) fun l => accSl a l) fun d => fun σ => some (.next, wr 2 d σ) : Mx Fl) ⟨[some (.acc j), some (.int (i : Int)), none], al, []⟩ = some (.next, ⟨[some (.acc j), some (.int (i : Int)), some (.lst ((A.2.drop i).map part))], al, []⟩) := by
    rw [bd_ev (a := .lst ((A.2.drop i).map part)) (σ' := ⟨[some (.acc j), some (.int (i : Int)), none], al, []⟩)]
    · rfl
    · rw [bd_ev (rd_ev rfl), bd_ev (a := some (i : Int)) (σ' := ⟨[some (.acc j), some (.int (i : Int)), none], al, []⟩) rfl]
      unfold accSl
      dsimp only
      rw [h]
      dsimp only
      rw [if_pos ⟨by omega, by omega, by omega⟩, Int.toNat_natCast]
  have e2 : (bd (rd 0) fun a => bd (bd (rd 1) fun d => lf (asI d)) fun l => accCut a l : Mx Fl) ⟨[some (.acc j), some (.int (i : Int)), some (.lst ((A.2.drop i).map part))], al, []⟩ = some (.next, ⟨[some (.acc j), some (.int (i : Int)), some (.lst ((A.2.drop i).map part))], al.set j (A.1, A.2.take i), []⟩) := by
    rw [bd_ev (rd_ev rfl), bd_ev (a := some (i : Int)) (σ' := ⟨[some (.acc j), some (.int (i : Int)), some (.lst ((A.2.drop i).map part))], al, []⟩) rfl]
    unfold accCut
    dsimp only
    rw [h]
    dsimp only
    rw [if_pos ⟨by omega, by omega, by omega⟩, Int.toNat_natCast]
  have hm : (sq (bd (bd (rd 0) fun a => bd (bd (rd 1) fun d => lf (asI d)) fun l => accSl a l) fun d => fun σ => some (.next, wr 2 d σ)) (sq (bd (rd 0) fun a => bd (bd (rd 1) fun d => lf (asI d)) fun l => accCut a l) (sq (bd (rd 2) fun d => rt (.ret d)) (rt .next))) : Mx Fl) ⟨[some (.acc j), some (.int (i : Int)), none], al, []⟩ = some (.ret (.lst ((A.2.drop i).map part)), ⟨[some (.acc j), some (.int (i : Int)), some (.lst ((A.2.drop i).map part))], al.set j (A.1, A.2.take i), []⟩) := by
    rw [sq_next e1, sq_next e2, sq_rt]; rfl
  exact fnP_ret (n := 2) (N := 3) (ds := [.acc j, .int (i : Int)]) rfl hm (frz_noB _ _ (by unfold noB; exact noBs_map part (fun _ => rfl) _))
noncomputable def stl (T : Nat → Nat → Nat) : List Nat → List Nat
  | [] => [0]
  | c :: a => stl T a ++ [stA T (c :: a)]
theorem stl_len (T : Nat → Nat → Nat) : ∀ a, (stl T a).length = a.length + 1
  | [] => rfl
  | c :: a => by unfold stl; rw [List.length_append, stl_len T a]; rfl
theorem stl_end (T : Nat → Nat → Nat) : ∀ a, ∃ l, stl T a = l ++ [stA T a]
  | [] => ⟨[], rfl⟩
  | c :: a => ⟨_, rfl⟩
theorem stl_at (T : Nat → Nat → Nat) (a : List Nat) : ∀ u, (stl T (u ++ a))[a.length]? = some (stA T a)
  | [] => by
    obtain ⟨l, h⟩ := stl_end T a
    have h2 := stl_len T a
    rw [List.nil_append, h]
    rw [h, List.length_append] at h2
    have : l.length = a.length := Nat.succ.inj h2
    rw [List.getElem?_append_right (Nat.le_of_eq this), this, Nat.sub_self]; rfl
  | c :: u => by
    show (stl T (u ++ a) ++ [_])[a.length]? = _
    rw [List.getElem?_append_left (by rw [stl_len, List.length_append]; omega)]
    exact stl_at T a u
theorem item_last (bs : List (List D)) (k : Nat) (l : List D) (d : D) (h : bs[k]? = some (l ++ [d])) : itemD bs (.box k) (.int (-1)) = some d := by
  show (match bs[k]? with | some l => itemL l (-1) | none => none) = _
  rw [h]
  show itemL (l ++ [d]) (-1) = _
  unfold itemL
  rw [if_pos ⟨by decide, by decide⟩]
  have : seqIndex? (-1) (l ++ [d]).length = some l.length := by
    unfold seqIndex?
    rw [List.length_append]
    simp
    omega
  rw [this]
  simp
noncomputable abbrev dPc (l : List Nat) : List D := l.map fun c => part (pc1 c)
noncomputable abbrev lσ (sc md : D) (x4 x5 x6 x7 x8 x9 x10 x11 x12 x13 x14 x15 x16 : Option D) (al : List Acc) (bx : List (List D)) : MS :=
  ⟨[some sc, some md, some (.box 0), some (.box 1), x4, x5, x6, x7, x8, x9, x10, x11, x12, x13, x14, x15, x16], al, bx⟩
noncomputable abbrev tT (ms : List Nat) : Nat → Nat → Nat := fun k q => nxt (ms.getD k 0) q
theorem tT_lt (ms : List Nat) : ∀ k q, tT ms k q < 3 := fun _ _ => nxt_lt _ _
section
variable {sc : D} {ms : List Nat} {x4 x5 x6 x7 x8 x9 x10 x11 x12 x13 x14 x15 x16 : Option D} {al : List Acc}
theorem app_box {σ : MS} {i k : Nat} {l : List D} {d : D} {e : Mx D} (hv : σ.v[i]? = some (some (.box k))) (hb : σ.b[k]? = some l) (he : e σ = some (d, σ)) (hz : l.length < 1000000) :
    (bd (rd i) fun d => if isBox d then bd (bd e fun d => bd (rt []) fun ds => rt (d :: ds)) fun ds => appM (d :: ds) else fun _ => none : Mx D) σ = some (.none, { σ with b := σ.b.set k (l ++ [d]) }) := by
  rw [bd_ev (rd_ev hv), if_pos (show isBox (D.box k) = true from rfl), bd_ev (a := [d]) (σ' := σ) (by rw [bd_ev he]; rfl)]
  show (match σ.b[k]? with | some l => if l.length < 1000000 then some (D.none, { σ with b := σ.b.set k (l ++ [d]) }) else none | none => none) = _
  rw [hb]
  exact if_pos hz
theorem law_turn (hm : 4 ≤ ms.length) {c : Nat} {a : List Nat} (hc : c < 1114112) (ha : a.length < 1000) : b_law_0 (lσ sc (dI ms) (some (dS [c])) x5 x6 x7 x8 x9 x10 x11 x12 x13 x14 x15 x16 al [dPc a.reverse, dPa (stl (tT ms) a)]) =
    some (.next, lσ sc (dI ms) (some (dS [c])) (some (.int (knd c : Nat))) x6 x7 x8 x9 x10 x11 x12 x13 x14 x15 x16 al [dPc (c :: a).reverse, dPa (stl (tT ms) (c :: a))]) := by
  unfold b_law_0
  have e0 : x_law_2 (lσ sc (dI ms) (some (dS [c])) x5 x6 x7 x8 x9 x10 x11 x12 x13 x14 x15 x16 al [dPc a.reverse, dPa (stl (tT ms) a)]) = some (.int (knd c : Nat), lσ sc (dI ms) (some (dS [c])) x5 x6 x7 x8 x9 x10 x11 x12 x13 x14 x15 x16 al [dPc a.reverse, dPa (stl (tT ms) a)]) := by
    unfold x_law_2
    rw [c_minus, c_sst]
    have t1 : (bd (rd 4) fun a => bd (rt (dS [45])) fun b => lf (eqD a b)) (lσ sc (dI ms) (some (dS [c])) x5 x6 x7 x8 x9 x10 x11 x12 x13 x14 x15 x16 al [dPc a.reverse, dPa (stl (tT ms) a)]) = some (decide (c = 45), lσ sc (dI ms) (some (dS [c])) x5 x6 x7 x8 x9 x10 x11 x12 x13 x14 x15 x16 al [dPc a.reverse, dPa (stl (tT ms) a)]) := by
      rw [bd_ev (rd_ev rfl), bd_ev (a := dS [45]) (σ' := lσ sc (dI ms) (some (dS [c])) x5 x6 x7 x8 x9 x10 x11 x12 x13 x14 x15 x16 al [dPc a.reverse, dPa (stl (tT ms) a)]) rfl, eqD_ch c 45 hc (by decide)]; rfl
    have t2 : (bd (rd 4) fun a => bd (rt (dS [115, 83, 116, 84])) fun b => lf (inD a b)) (lσ sc (dI ms) (some (dS [c])) x5 x6 x7 x8 x9 x10 x11 x12 x13 x14 x15 x16 al [dPc a.reverse, dPa (stl (tT ms) a)]) = some (decide (sst c), lσ sc (dI ms) (some (dS [c])) x5 x6 x7 x8 x9 x10 x11 x12 x13 x14 x15 x16 al [dPc a.reverse, dPa (stl (tT ms) a)]) := by
      rw [bd_ev (rd_ev rfl), bd_ev (a := dS [115, 83, 116, 84]) (σ' := lσ sc (dI ms) (some (dS [c])) x5 x6 x7 x8 x9 x10 x11 x12 x13 x14 x15 x16 al [dPc a.reverse, dPa (stl (tT ms) a)]) rfl, inD_one]; rfl
    rw [if_ev t1]
    unfold knd
    by_cases q : c = 45
    · rw [if_pos (by simpa using q), if_pos q]; rfl
    · rw [if_neg (by simpa using q), if_neg q, if_ev t2]
      by_cases h : sst c
      · rw [if_pos (by simpa using h), if_pos h]; rfl
      · rw [if_neg (by simpa using h), if_neg h]; rfl
  refine (sq_next ((bd_ev e0).trans rfl)).trans ?_
  have e1 : x_law_3 (lσ sc (dI ms) (some (dS [c])) (some (.int (knd c : Nat))) x6 x7 x8 x9 x10 x11 x12 x13 x14 x15 x16 al [dPc a.reverse, dPa (stl (tT ms) a)]) = some (.none, lσ sc (dI ms) (some (dS [c])) (some (.int (knd c : Nat))) x6 x7 x8 x9 x10 x11 x12 x13 x14 x15 x16 al [dPc (c :: a).reverse, dPa (stl (tT ms) a)]) := by
    unfold x_law_3
    rw [c_blank, S_nil]
    refine (app_box (d := part (pc1 c)) rfl rfl ?_ (by simp; omega)).trans (by simp)
    rw [bd_ev (a := .lst [.tup [dS [32], dS []], .tup [dS [], dS [c]], .tup [dS [32], dS [c]]]) (σ' := lσ sc (dI ms) (some (dS [c])) (some (.int (knd c : Nat))) x6 x7 x8 x9 x10 x11 x12 x13 x14 x15 x16 al [dPc a.reverse, dPa (stl (tT ms) a)]) rfl, bd_ev (rd_ev rfl)]
    have : ∀ bs, itemD bs (.lst [.tup [dS [32], dS []], .tup [dS [], dS [c]], .tup [dS [32], dS [c]]]) (.int (knd c : Nat)) = some (part (pc1 c)) := by
      intro bs
      refine itemL_nat ?_ (by have := knd_lt c; omega)
      rw [part_pc1]
      unfold knd
      by_cases q : c = 45
      · simp [q]
      · by_cases h : sst c
        · simp only [q, h, or_true, if_false, if_true]; rfl
        · simp only [q, h, or_false, if_false]; rfl
    dsimp only
    rw [this]; rfl
  refine (sq_next ((bd_ev e1).trans rfl)).trans ?_
  have e2 : x_law_4 (lσ sc (dI ms) (some (dS [c])) (some (.int (knd c : Nat))) x6 x7 x8 x9 x10 x11 x12 x13 x14 x15 x16 al [dPc (c :: a).reverse, dPa (stl (tT ms) a)]) = some (.none, lσ sc (dI ms) (some (dS [c])) (some (.int (knd c : Nat))) x6 x7 x8 x9 x10 x11 x12 x13 x14 x15 x16 al [dPc (c :: a).reverse, dPa (stl (tT ms) (c :: a))]) := by
    unfold x_law_4
    generalize hσ : lσ sc (dI ms) (some (dS [c])) (some (.int (knd c : Nat))) x6 x7 x8 x9 x10 x11 x12 x13 x14 x15 x16 al [dPc (c :: a).reverse, dPa (stl (tT ms) a)] = σ
    have v1 : σ.v[1]? = some (some (dI ms)) := by rw [← hσ]; rfl
    have v3 : σ.v[3]? = some (some (.box 1)) := by rw [← hσ]; rfl
    have v5 : σ.v[5]? = some (some (.int (knd c : Nat))) := by rw [← hσ]; rfl
    have hb : σ.b[1]? = some (dPa (stl (tT ms) a)) := by rw [← hσ]; rfl
    have i1 : (bd (rd 1) fun a => bd (rd 5) fun b => fun σ => (itemD σ.b a b).map fun d => (d, σ)) σ = some (.int (ms.getD (knd c) 0 : Nat), σ) := by
      rw [bd_ev (rd_ev v1), bd_ev (rd_ev v5)]
      have : itemD σ.b (dI ms) (.int (knd c : Nat)) = some (.int (ms.getD (knd c) 0 : Nat)) := by
        refine itemL_nat ?_ (by have := knd_lt c; omega)
        have hk : knd c < ms.length := Nat.lt_of_lt_of_le (knd_lt c) (Nat.le_trans (by decide) hm)
        rw [List.getElem?_map, getD_some (z := 0) hk]; rfl
      rw [this]; rfl
    have i2 : (bd (rd 3) fun a => bd (bd (rt (.int 1)) fun d => lf (negD d)) fun b => fun σ => (itemD σ.b a b).map fun d => (d, σ)) σ = some (.int (stA (tT ms) a : Nat), σ) := by
      rw [bd_ev (rd_ev v3), bd_ev (a := .int (-1)) (σ' := σ) rfl]
      obtain ⟨l, hl⟩ := stl_end (tT ms) a
      rw [item_last σ.b 1 (dPa l) (.int (stA (tT ms) a : Nat)) (by rw [hb, hl]; simp)]; rfl
    have e : ((bd (bd (bd (rd 1) fun a => bd (rd 5) fun b => fun σ => (itemD σ.b a b).map fun d => (d, σ)) fun d => bd (bd (bd (rd 3) fun a => bd (bd (rt (.int 1)) fun d => lf (negD d)) fun b => fun σ => (itemD σ.b a b).map fun d => (d, σ)) fun d => bd (rt []) fun ds => rt (d :: ds)) fun ds => rt (d :: ds)) fun ds => callM p_law_next ds) : Mx D) σ = some (.int (stA (tT ms) (c :: a) : Nat), σ) := by
      rw [bd_ev (a := [.int (ms.getD (knd c) 0 : Nat), .int (stA (tT ms) a : Nat)]) (σ' := σ)]
      · exact callM_ev rfl (sp_next _ _ (stA_lt (tT_lt ms) a) _)
      · rw [bd_ev i1, bd_ev (a := [.int (stA (tT ms) a : Nat)]) (σ' := σ) (by rw [bd_ev i2]; rfl)]; rfl
    refine (app_box v3 hb e (by rw [List.length_map, stl_len]; omega)).trans ?_
    rw [← hσ]
    show some (D.none, lσ sc (dI ms) (some (dS [c])) (some (.int (knd c : Nat))) x6 x7 x8 x9 x10 x11 x12 x13 x14 x15 x16 al [dPc (c :: a).reverse, dPa (stl (tT ms) a) ++ [.int (stA (tT ms) (c :: a) : Nat)]]) = _
    rw [show stl (tT ms) (c :: a) = stl (tT ms) a ++ [stA (tT ms) (c :: a)] from rfl, dPa, dPa, List.map_append]; rfl
  refine (sq_next ((bd_ev e2).trans rfl)).trans rfl
theorem law_l1 (hm : 4 ≤ ms.length) : ∀ (cs a : List Nat) (x4 x5 : Option D), (∀ c ∈ cs, c < 1114112) → cs.length + a.length < 1000 → ∃ y4 y5, loopM (fun d σ => some (wr 4 d σ)) b_law_0 o_law_0 (dCs cs) (lσ sc (dI ms) x4 x5 x6 x7 x8 x9 x10 x11 x12 x13 x14 x15 x16 al [dPc a.reverse, dPa (stl (tT ms) a)]) =
    some (.next, lσ sc (dI ms) y4 y5 x6 x7 x8 x9 x10 x11 x12 x13 x14 x15 x16 al [dPc (cs.reverse ++ a).reverse, dPa (stl (tT ms) (cs.reverse ++ a))])
  | [], a, x4, x5, _, _ => ⟨x4, x5, rfl⟩
  | c :: cs, a, x4, x5, hc, hz => by
    obtain ⟨y4, y5, h⟩ := law_l1 hm cs (c :: a) (some (dS [c])) (some (.int (knd c : Nat))) (fun d hd => hc d (.tail _ hd)) (by simp at hz ⊢; omega)
    refine ⟨y4, y5, (loop_next (σ1 := lσ sc (dI ms) (some (dS [c])) x5 x6 x7 x8 x9 x10 x11 x12 x13 x14 x15 x16 al [dPc a.reverse, dPa (stl (tT ms) a)]) rfl (law_turn hm (hc c (.head _)) (by simp at hz; omega))).trans (h.trans ?_)⟩
    rw [List.reverse_cons, List.append_assoc]; rfl
end
end Mine
end
section
open PySem PySem.W
set_option autoImplicit false
namespace Mine
noncomputable def sg (ms : List Nat) : List Nat := ((ms.drop 3).map row).flatten
theorem sg_ch (ms : List Nat) : ∀ c ∈ sg ms, c < 1114112 := by
  intro c hc
  unfold sg at hc
  obtain ⟨l, hl, hc⟩ := List.mem_flatten.mp hc
  obtain ⟨M, _, rfl⟩ := List.mem_map.mp hl
  exact Nat.lt_trans (row_ch M c hc).1 (by decide)
theorem sg_len (ms : List Nat) : (sg ms).length = 10 * (ms.length - 3) := by
  unfold sg
  have : ∀ l : List Nat, ((l.map row).flatten).length = 10 * l.length := by
    intro l
    induction l with
    | nil => rfl
    | cons a l ih => rw [List.map_cons, List.flatten_cons, List.length_append, ih, row_len, List.length_cons]; omega
  rw [this, List.length_drop]
theorem ev_file {M : Nat} (hM : M < 65536) {al : List Acc} {bx : List (List D)} : e_law_1 ⟨[some (dInt M)], al, bx⟩ = some ([dS (row M)], ⟨[some (dInt M)], al, bx⟩) := by
  unfold e_law_1
  rw [bd_ev (a := dS (row M)) (σ' := ⟨[some (dInt M)], al, bx⟩)]
  · rfl
  · rw [bd_ev (a := [dInt M]) (σ' := ⟨[some (dInt M)], al, bx⟩) rfl]
    exact callM_ev rfl (sp_file M hM al)
theorem ev_row {M : Nat} (hM : M < 65536) {al : List Acc} {bx : List (List D)} : e_law_0 ⟨[some (dInt M)], al, bx⟩ = some ([dS (row M)], ⟨[some (dInt M)], al, bx⟩) := by
  unfold e_law_0
  rw [bd_ev (a := dS (row M)) (σ' := ⟨[some (dInt M)], al, bx⟩)]
  · rfl
  · rw [bd_ev (a := [dInt M]) (σ' := ⟨[some (dInt M)], al, bx⟩) rfl]
    exact callM_ev rfl (sp_row M hM al)
theorem mid3 (M q : Nat) (hq : q < 3) : ((row M).drop (3 * q + 1)).take (3 * q + 4 - (3 * q + 1)) = three q (rgt M q) (abv M q) := by
  rcases lt3 q hq with rfl | rfl | rfl <;> rfl
theorem ev_w {M q : Nat} (hq : q < 3) {al : List Acc} {bx : List (List D)} : e_law_2 ⟨[some (.int ((3 * q + 1 : Nat) : Int)), some (dS (row M))], al, bx⟩ = some ([.int (nxt M q : Nat)], ⟨[some (.int ((3 * q + 1 : Nat) : Int)), some (dS (row M))], al, bx⟩) := by
  unfold e_law_2
  have h1 : sliceD bx (some ((3 * q + 1 : Nat) : Int)) (some ((3 * q + 4 : Nat) : Int)) none (dS (row M)) = some (dS (three q (rgt M q) (abv M q))) := by
    unfold sliceD
    dsimp only
    rw [pickS_eq, pickL_mid _ _ _ (by rw [row_len]; omega) (by omega), mid3 M q hq, if_pos ⟨by rw [S_length, row_len]; decide, by rw [S_length]; show 3 ≤ 1000000; decide, by decide⟩]
  have h2 : ((bd (rd 1) fun a => bd (bd (rd 0) fun d => lf (asI d)) fun l => bd (bd (bd (rd 0) fun a => bd (rt (.int 3)) fun b => lf (addD a b)) fun d => lf (asI d)) fun u => bd (rt none) fun t => fun σ => (sliceD σ.b l u t a).map fun d => (d, σ)) : Mx D) ⟨[some (.int ((3 * q + 1 : Nat) : Int)), some (dS (row M))], al, bx⟩ = some (dS (three q (rgt M q) (abv M q)), ⟨[some (.int ((3 * q + 1 : Nat) : Int)), some (dS (row M))], al, bx⟩) := by
    rw [bd_ev (rd_ev rfl), bd_ev (a := some ((3 * q + 1 : Nat) : Int)) (σ' := ⟨[some (.int ((3 * q + 1 : Nat) : Int)), some (dS (row M))], al, bx⟩) rfl, bd_ev (a := some ((3 * q + 4 : Nat) : Int)) (σ' := ⟨[some (.int ((3 * q + 1 : Nat) : Int)), some (dS (row M))], al, bx⟩) rfl, bd_ev (a := none) (σ' := ⟨[some (.int ((3 * q + 1 : Nat) : Int)), some (dS (row M))], al, bx⟩) rfl]
    dsimp only
    rw [h1]; rfl
  rw [bd_ev (a := .int (nxt M q : Nat)) (σ' := ⟨[some (.int ((3 * q + 1 : Nat) : Int)), some (dS (row M))], al, bx⟩)]
  · rfl
  · rw [bd_ev (a := [dS (three q (rgt M q) (abv M q))]) (σ' := ⟨[some (.int ((3 * q + 1 : Nat) : Int)), some (dS (row M))], al, bx⟩) (by rw [bd_ev h2]; rfl)]
    exact callM_ev rfl (sp_worth M q hq al)
theorem ev_t {M : Nat} {al : List Acc} {bx : List (List D)} : e_law_3 ⟨[some (dS (row M))], al, bx⟩ = some ([dAf (nxt M)], ⟨[some (dS (row M))], al, bx⟩) := by
  unfold e_law_3
  have h := comp1 (is := [0]) (σ := ⟨[some (dS (row M))], al, bx⟩) (mi := bd (bd (bd (rt (.int 1)) fun d => bd (bd (rt (.int 4)) fun d => bd (bd (rt (.int 7)) fun d => bd (rt []) fun ds => rt (d :: ds)) fun ds => rt (d :: ds)) fun ds => rt (d :: ds)) fun l => lf (mkT l)) fun d => lf (itM false d)) (m := e_law_2) (fun (q : Nat) => D.int ((3 * q + 1 : Nat) : Int)) (fun (q : Nat) => D.int (nxt M q : Nat)) (fun _ => true) (List.range 3) rfl (fun q hq => ev_w (List.mem_range.mp hq)) (by decide)
  rw [filt_true] at h
  rw [bd_ev h]; rfl
theorem slice_drop {σ : MS} {i : Nat} {n : Nat} {l : List D} (hv : σ.v[i]? = some (some (.lst l))) (hz : l.length ≤ 1000) : (bd (rd i) fun a => bd (bd (rt (.int n)) fun d => lf (asI d)) fun l => bd (rt none) fun u => bd (rt none) fun t => fun σ => (sliceD σ.b l u t a).map fun d => (d, σ)) σ = some (.lst (l.drop n), σ) := by
  have h1 : sliceD σ.b (some n) none none (.lst l) = some (.lst (l.drop n)) := by
    unfold sliceD
    dsimp only
    rw [if_pos ⟨by omega, by simp⟩, pickL_drop]
  rw [bd_ev (rd_ev hv), bd_ev (a := some (n : Int)) (σ' := σ) rfl, bd_ev (a := none) (σ' := σ) rfl, bd_ev (a := none) (σ' := σ) rfl, h1]
  rfl
theorem slice_take {σ : MS} {i : Nat} {n : Nat} {l : List D} (hv : σ.v[i]? = some (some (.lst l))) (hz : l.length ≤ 1000) : (bd (rd i) fun a => bd (rt none) fun l => bd (bd (rt (.int n)) fun d => lf (asI d)) fun u => bd (rt none) fun t => fun σ => (sliceD σ.b l u t a).map fun d => (d, σ)) σ = some (.lst (l.take n), σ) := by
  have h1 : sliceD σ.b none (some n) none (.lst l) = some (.lst (l.take n)) := by
    unfold sliceD
    dsimp only
    rw [if_pos ⟨by omega, by simp⟩, pickL_take]
  rw [bd_ev (rd_ev hv), bd_ev (a := none) (σ' := σ) rfl, bd_ev (a := some (n : Int)) (σ' := σ) rfl, bd_ev (a := none) (σ' := σ) rfl, h1]
  rfl
theorem join_rows {σ : MS} {m : Mx D} {l : List (List Nat)} (h : m σ = some (.lst (l.map dS), σ)) (hz : l.flatten.length ≤ 1000000) : ((bd (rt (.str "")) fun d => if isStr d then bd (bd m fun d => bd (rt []) fun ds => rt (d :: ds)) fun ds => joinM (d :: ds) else fun _ => none) : Mx D) σ = some (dS l.flatten, σ) := by
  rw [bd_ev (a := .str "") (σ' := σ) rfl, if_pos (show isStr (D.str "") = true from rfl), bd_ev (a := [.lst (l.map dS)]) (σ' := σ) (by rw [bd_ev h]; rfl)]
  exact joinM_S rfl hz
noncomputable abbrev dRw (ms : List Nat) : D := .lst (ms.map fun M => dS (row M))
section
variable {sc : D} {ms : List Nat} {x4 x5 x6 x7 x8 x9 x10 x11 x12 x13 x14 x15 x16 : Option D} {al : List Acc} {bx : List (List D)}
theorem st_2 (hl : ms.length ≤ 6) (hm : ∀ M ∈ ms, M < 65536) : i_law_0 (lσ sc (dI ms) x4 x5 x6 x7 x8 x9 x10 x11 x12 x13 x14 x15 x16 al bx) = some (dCs (sg ms), lσ sc (dI ms) x4 x5 x6 x7 x8 x9 x10 x11 x12 x13 x14 x15 x16 al bx) := by
  unfold i_law_0
  generalize hσ : lσ sc (dI ms) x4 x5 x6 x7 x8 x9 x10 x11 x12 x13 x14 x15 x16 al bx = σ
  have v1 : σ.v[1]? = some (some (dI ms)) := by rw [← hσ]; rfl
  have hs := slice_drop (n := 3) v1 (by rw [List.length_map]; omega)
  have hc := comp1 (is := []) (σ := σ) (mi := bd (bd (rd 1) fun a => bd (bd (rt (.int (3 : Nat))) fun d => lf (asI d)) fun l => bd (rt none) fun u => bd (rt none) fun t => fun σ => (sliceD σ.b l u t a).map fun d => (d, σ)) fun d => lf (itM false d)) (m := e_law_0) dInt (fun M => dS (row M)) (fun _ => true) (ms.drop 3) (by rw [bd_ev hs, ← List.map_drop]; rfl) (fun M hM => ev_row (hm M (List.mem_of_mem_drop hM))) (by rw [List.length_drop]; omega)
  rw [filt_true] at hc
  have hj := join_rows (l := (ms.drop 3).map row) (by rw [List.map_map]; exact hc) (by have := sg_len ms; unfold sg at this; omega)
  refine (bd_ev hj).trans ?_
  show lf (itM false (dS (sg ms))) σ = _
  unfold itM; rw [seqD_S]; rfl
theorem st_3 (hl : ms.length ≤ 6) (hm : ∀ M ∈ ms, M < 65536) : s_law_3 (lσ sc (dI ms) x4 x5 x6 x7 x8 x9 x10 x11 x12 x13 x14 x15 x16 al bx) = some (.next, lσ sc (dI ms) x4 x5 (some (dRw ms)) x7 x8 x9 x10 x11 x12 x13 x14 x15 x16 al bx) := by
  unfold s_law_3
  have hc := comp1 (is := []) (σ := lσ sc (dI ms) x4 x5 x6 x7 x8 x9 x10 x11 x12 x13 x14 x15 x16 al bx) (mi := bd (rd 1) fun d => lf (itM false d)) (m := e_law_1) dInt (fun M => dS (row M)) (fun _ => true) ms rfl (fun M hM => ev_file (hm M hM)) (by omega)
  rw [filt_true] at hc
  exact (bd_ev hc).trans rfl
theorem st_4 (h3 : 3 ≤ ms.length) (hl : ms.length ≤ 6) : s_law_4 (lσ sc (dI ms) x4 x5 (some (dRw ms)) x7 x8 x9 x10 x11 x12 x13 x14 x15 x16 al bx) = some (.next, lσ sc (dI ms) x4 x5 (some (dRw ms)) (some (dTu (tT ms))) x8 x9 x10 x11 x12 x13 x14 x15 x16 al bx) := by
  unfold s_law_4
  have hs := slice_take (σ := lσ sc (dI ms) x4 x5 (some (dRw ms)) x7 x8 x9 x10 x11 x12 x13 x14 x15 x16 al bx) (i := 6) (n := 3) (l := ms.map fun M => dS (row M)) rfl (by rw [List.length_map]; omega)
  have hc := comp1 (is := []) (σ := lσ sc (dI ms) x4 x5 (some (dRw ms)) x7 x8 x9 x10 x11 x12 x13 x14 x15 x16 al bx) (mi := bd (bd (rd 6) fun a => bd (rt none) fun l => bd (bd (rt (.int (3 : Nat))) fun d => lf (asI d)) fun u => bd (rt none) fun t => fun σ => (sliceD σ.b l u t a).map fun d => (d, σ)) fun d => lf (itM false d)) (m := e_law_3) (fun M => dS (row M)) (fun M => dAf (nxt M)) (fun _ => true) (ms.take 3) (by rw [bd_ev hs, ← List.map_take]; rfl) (fun M hM => ev_t) (by rw [List.length_take]; omega)
  rw [filt_true] at hc
  refine (bd_ev hc).trans ?_
  match ms, h3 with
  | M0 :: M1 :: M2 :: r, _ => rfl
theorem st_5 (h3 : 4 ≤ ms.length) (hl : ms.length ≤ 6) : s_law_5 (lσ sc (dI ms) x4 x5 (some (dRw ms)) (some (dTu (tT ms))) x8 x9 x10 x11 x12 x13 x14 x15 x16 [] bx) = some (.next, lσ sc (dI ms) x4 x5 (some (dRw ms)) (some (dTu (tT ms))) (some (.acc 0)) (some (.acc 1)) (some (.int (stA (tT ms) (sg ms).reverse : Nat))) x11 x12 x13 x14 x15 x16 (cf (sg ms).reverse []) bx) := by
  unfold s_law_5
  have : x_law_5 (lσ sc (dI ms) x4 x5 (some (dRw ms)) (some (dTu (tT ms))) x8 x9 x10 x11 x12 x13 x14 x15 x16 [] bx) = some (.tup [.acc 0, .acc 1, .int (stA (tT ms) (sg ms).reverse : Nat)], lσ sc (dI ms) x4 x5 (some (dRw ms)) (some (dTu (tT ms))) x8 x9 x10 x11 x12 x13 x14 x15 x16 (cf (sg ms).reverse []) bx) := by
    unfold x_law_5
    generalize hσ : lσ sc (dI ms) x4 x5 (some (dRw ms)) (some (dTu (tT ms))) x8 x9 x10 x11 x12 x13 x14 x15 x16 [] bx = σ
    have v6 : σ.v[6]? = some (some (dRw ms)) := by rw [← hσ]; rfl
    have v7 : σ.v[7]? = some (some (dTu (tT ms))) := by rw [← hσ]; rfl
    have ha : σ.a = [] := by rw [← hσ]
    have hsl := sg_len ms
    have hs := slice_drop (n := 3) v6 (by rw [List.length_map]; omega)
    rw [← List.map_drop] at hs
    have hj := join_rows (m := bd (rd 6) fun a => bd (bd (rt (.int (3 : Nat))) fun d => lf (asI d)) fun l => bd (rt none) fun u => bd (rt none) fun t => fun σ => (sliceD σ.b l u t a).map fun d => (d, σ)) (l := (ms.drop 3).map row) (σ := σ) (by rw [List.map_map]; exact hs) (by unfold sg at hsl; omega)
    rw [bd_ev (a := [dTu (tT ms), dS (sg ms)]) (σ' := σ)]
    · refine (callM_ev rfl (by rw [ha]; exact sp_forth (tT_lt ms) (sg ms) (sg_ch ms) (by omega))).trans ?_
      rw [← hσ]
    · rw [bd_ev (rd_ev v7), bd_ev (a := [dS (sg ms)]) (σ' := σ)]
      · rfl
      · refine (bd_ev hj).trans ?_
        rfl
  exact (bd_ev this).trans rfl
end
end Mine
end
section
open PySem PySem.W
set_option autoImplicit false
namespace Mine
noncomputable def ct (c : Nat) : List Nat := (if c = 45 ∨ sst c then [32] else []) ++ (if c = 45 then [] else [c])
noncomputable def txt (l : List Nat) : List Nat := (l.map ct).flatten
theorem ct_len (c : Nat) : (ct c).length ≤ 2 := by
  have h1 : (if c = 45 ∨ sst c then [32] else []).length ≤ 1 := by split <;> simp
  have h2 : (if c = 45 then [] else [c]).length ≤ 1 := by split <;> simp
  unfold ct
  rw [List.length_append]
  exact Nat.add_le_add h1 h2
theorem pc_len (c : Nat) : (pc1 c).1.length + (pc1 c).2.length = (ct c).length := by
  unfold pc1 ct
  rw [S_length, S_length, List.length_append]
theorem txt_len : ∀ l, (txt l).length ≤ 2 * l.length
  | [] => Nat.le_refl _
  | c :: l => by
    have h1 := ct_len c
    have h2 := txt_len l
    unfold txt at h2 ⊢
    rw [List.map_cons, List.flatten_cons, List.length_append, List.length_cons]
    omega
theorem ct_ch {c : Nat} (h : c < 1114112) : ∀ x ∈ ct c, x < 1114112 := by
  intro x hx
  unfold ct at hx
  rcases List.mem_append.mp hx with hx | hx
  · split at hx
    · rw [List.mem_singleton] at hx; subst hx; decide
    · cases hx
  · split at hx
    · cases hx
    · rw [List.mem_singleton] at hx; subst hx; exact h
theorem txt_ch {l : List Nat} (h : ∀ c ∈ l, c < 1114112) : ∀ x ∈ txt l, x < 1114112 := by
  intro x hx
  unfold txt at hx
  obtain ⟨t, ht, hx⟩ := List.mem_flatten.mp hx
  obtain ⟨c, hc, rfl⟩ := List.mem_map.mp ht
  exact ct_ch (h c hc) x hx
theorem texts_pc (l : List Nat) : textsOf (l.map pc1) = (l.map ct).map S := by
  unfold textsOf
  rw [List.map_map, List.map_map]
  refine List.map_congr_left fun c _ => ?_
  have := join_S [if c = 45 ∨ sst c then [32] else [], if c = 45 then [] else [c]]
  simp only [List.map_cons, List.map_nil, List.flatten_cons, List.flatten_nil, List.append_nil] at this
  exact this
theorem sum_pc : ∀ l : List Nat, sumParts (l.map pc1) = ((txt l).length : Int)
  | [] => rfl
  | c :: l => by
    have ih := sum_pc l
    unfold sumParts txt at ih ⊢
    rw [List.map_cons, List.map_cons, List.sum_cons, ih, List.map_cons, List.flatten_cons, List.length_append, pc_len, Int.natCast_add]
theorem pc_lens (c : Nat) : (pc1 c).1.length ≤ 1000000 ∧ (pc1 c).2.length ≤ 1000000 := by
  unfold pc1
  rw [S_length, S_length]
  exact ⟨by split <;> decide, by split <;> simp⟩
theorem lenOk_pc (k : Int) (hk : -(2 ^ 62) ≤ k ∧ k < 2 ^ 62) (l : List Nat) (hz : l.length ≤ 1000) : lenOk (k, l.map pc1) = true := by
  unfold lenOk
  simp only [Bool.and_eq_true, decide_eq_true_eq, List.all_eq_true]
  refine ⟨⟨⟨hk.1, hk.2⟩, by rw [List.length_map]; omega⟩, fun p hp => ?_⟩
  obtain ⟨c, _, rfl⟩ := List.mem_map.mp hp
  exact pc_lens c
theorem joinOk_pc (l : List Nat) (hz : (txt l).length ≤ 1000) : JoinOk "" (textsOf (l.map pc1)) = true := by
  rw [texts_pc]
  refine PyProof.Rows.joinOk_of ?_
  have h0 : (("" : Str)).length = 0 := by decide +kernel
  rw [h0]
  have : (((l.map ct).map S).map (·.length)).sum = (txt l).length := by
    unfold txt
    generalize l.map ct = l
    induction l with
    | nil => rfl
    | cons a l ih => simp only [List.map_cons, List.sum_cons, S_length, List.flatten_cons, List.length_append, ih]
  rw [this]; omega
theorem str_pc {σ : MS} {i : Nat} {k : Int} {l : List Nat} (h : σ.a[i]? = some (k, l.map pc1)) (hz : l.length ≤ 400) : strA p_str [.acc i] σ = some (dS (txt l), σ) := by
  have ht := txt_len l
  have hp := sp_str h ⟨by rw [List.length_map]; omega, fun p hp => (by obtain ⟨c, _, rfl⟩ := List.mem_map.mp hp; exact pc_lens c), joinOk_pc l (by omega)⟩
  dsimp only at hp
  rw [texts_pc, join_S] at hp
  have := callM_ev (p := p_str) (ds := [.acc i]) (σ := σ) rfl hp
  unfold strA
  simp only [this]
  rfl
theorem neD_S {t : List Nat} (h : ∀ c ∈ t, c < 1114112) : neD (dS t) (dS t) = some false := by
  unfold neD; rw [eqD_S t t h h]; simp
theorem neD_one (n : Nat) : neD (dNs [n]) (.lst [.int (n : Int)]) = some false := by
  unfold neD eqD
  have e : pyO (dNs [n]) = some (.list [.int (n : Int)]) := by unfold pyO pyOs pyOs; rfl
  have e2 : pyO (.lst [.int (n : Int)]) = some (.list [.int (n : Int)]) := by unfold pyO pyOs pyOs; rfl
  rw [e, e2]
  dsimp only
  rw [if_pos ⟨by simp [PyData.depth, PyData.depthAll], by simp [PyData.depth, PyData.depthAll]⟩]
  simp [PyData.eqv, PyData.eqvAll]
noncomputable def downs : Nat → List Nat
  | 0 => [0]
  | n + 1 => (n + 1) :: downs n
section
variable {sc : D} {ms : List Nat} {x4 x5 x6 x10 x13 x14 x15 x16 : Option D}
noncomputable abbrev wσ (sc : D) (ms : List Nat) (x4 x5 x6 x10 x14 x15 x16 : Option D) (p fo : Nat) (a b pa : List Nat) : MS :=
  lσ sc (dI ms) x4 x5 x6 (some (dTu (tT ms))) (some (.acc 0)) (some (.acc 1)) x10 (some (dNs [fo])) (some (.box 2)) (some (.int (p : Nat))) x14 x15 x16 (cf a b) [dPc (sg ms), dPa (stl (tT ms) (sg ms).reverse), dPa pa]
theorem law_t0 {a b pa : List Nat} (h : sg ms = a.reverse ++ b) (hz : (sg ms).length ≤ 100) : t_law_0 (wσ sc ms x4 x5 x6 x10 x14 x15 x16 a.length (stA (tT ms) a) a b pa) = some (false, wσ sc ms x4 x5 x6 x10 x14 x15 x16 a.length (stA (tT ms) a) a b pa) := by
  unfold t_law_0
  have hl : a.length + b.length = (sg ms).length := by rw [h]; simp
  have i1 : (bd (rd 3) fun a => bd (rd 13) fun b => fun σ => (itemD σ.b a b).map fun d => (d, σ)) (wσ sc ms x4 x5 x6 x10 x14 x15 x16 a.length (stA (tT ms) a) a b pa) = some (.int (stA (tT ms) a : Nat), wσ sc ms x4 x5 x6 x10 x14 x15 x16 a.length (stA (tT ms) a) a b pa) := by
    rw [bd_ev (rd_ev rfl), bd_ev (rd_ev rfl)]
    have : itemD [dPc (sg ms), dPa (stl (tT ms) (sg ms).reverse), dPa pa] (.box 1) (.int (a.length : Nat)) = some (.int (stA (tT ms) a : Nat)) := by
      refine itemL_nat (l := dPa (stl (tT ms) (sg ms).reverse)) ?_ (by omega)
      rw [h, List.reverse_append, List.reverse_reverse, List.getElem?_map, stl_at]; rfl
    dsimp only
    rw [this]; rfl
  rw [bd_ev (a := false) (σ' := wσ sc ms x4 x5 x6 x10 x14 x15 x16 a.length (stA (tT ms) a) a b pa)]
  · show (bd (bd (rd 8) fun d => if isAcc d then callM p_part_count [d] else fun _ => none) fun a => bd (rd 13) fun b => lf (neD a b)) (wσ sc ms x4 x5 x6 x10 x14 x15 x16 a.length (stA (tT ms) a) a b pa) = _
    rw [bd_ev (cntN rfl), bd_ev (rd_ev rfl), neD_int, decide_eq_true rfl]; rfl
  · rw [bd_ev (rd_ev rfl), bd_ev (a := .lst [.int (stA (tT ms) a : Nat)]) (σ' := wσ sc ms x4 x5 x6 x10 x14 x15 x16 a.length (stA (tT ms) a) a b pa)]
    · rw [neD_one]; rfl
    · rw [bd_ev (a := [.int (stA (tT ms) a : Nat)]) (σ' := wσ sc ms x4 x5 x6 x10 x14 x15 x16 a.length (stA (tT ms) a) a b pa) (by rw [bd_ev i1]; rfl)]; rfl
theorem itM_pc (l : List Nat) : itM true (.lst (dPc l)) = some (dPc l) := by
  unfold itM seqD
  dsimp only
  rw [if_pos]
  unfold allUn
  simp only [Bool.not_true, Bool.false_or, List.all_eq_true]
  intro x hx
  obtain ⟨p, _, rfl⟩ := List.mem_map.mp hx
  rfl
theorem ev_e4 {c : Nat} {al : List Acc} {bx : List (List D)} : e_law_4 ⟨[some (.str (pc1 c).1), some (.str (pc1 c).2)], al, bx⟩ = some ([dS (ct c)], ⟨[some (.str (pc1 c).1), some (.str (pc1 c).2)], al, bx⟩) := by
  unfold e_law_4
  have : addD (.str (pc1 c).1) (.str (pc1 c).2) = some (dS (ct c)) := by
    unfold addD
    dsimp only
    have h := pc_lens c
    have h2 := ct_len c
    unfold pc1 at h ⊢
    unfold ct at h2
    dsimp only at h ⊢
    rw [S_length, S_length, S_append]
    rw [List.length_append] at h2
    rw [if_pos (Nat.le_trans h2 (by decide))]; rfl
  rw [bd_ev (a := dS (ct c)) (σ' := ⟨[some (.str (pc1 c).1), some (.str (pc1 c).2)], al, bx⟩) (by
    rw [bd_ev (rd_ev rfl), bd_ev (rd_ev rfl), this]; rfl)]
  rfl
theorem law_t1 {a b pa : List Nat} {fo : Nat} (h : sg ms = a.reverse ++ b) (hz : (sg ms).length ≤ 100) : t_law_1 (wσ sc ms x4 x5 x6 x10 x14 x15 x16 a.length fo a b pa) = some (false, wσ sc ms x4 x5 x6 x10 x14 x15 x16 a.length fo a b pa) := by
  have hl : a.length + b.length = (sg ms).length := by rw [h]; simp
  have hch : ∀ c ∈ a.reverse, c < 1114112 := fun c hc => sg_ch ms c (by rw [h]; simp at hc ⊢; exact .inl hc)
  unfold t_law_1
  generalize hσ : wσ sc ms x4 x5 x6 x10 x14 x15 x16 a.length fo a b pa = σ
  have v8 : σ.v[8]? = some (some (.acc 0)) := by rw [← hσ]; rfl
  have v2 : σ.v[2]? = some (some (.box 0)) := by rw [← hσ]; rfl
  have v13 : σ.v[13]? = some (some (.int (a.length : Nat))) := by rw [← hσ]; rfl
  have hb : σ.b[0]? = some (dPc (sg ms)) := by rw [← hσ]; rfl
  have ha : σ.a[0]? = some (1, a.reverse.map pc1) := by rw [← hσ]; rfl
  have e1 : (bd (bd (rd 8) fun d => bd (rt []) fun ds => rt (d :: ds)) fun ds => strA p_str ds) σ = some (dS (txt a.reverse), σ) := by
    rw [bd_ev (a := [.acc 0]) (σ' := σ) (by rw [bd_ev (rd_ev v8)]; rfl)]
    exact str_pc ha (by rw [List.length_reverse]; omega)
  have hs : (bd (rd 2) fun a => bd (rt none) fun l => bd (bd (rd 13) fun d => lf (asI d)) fun u => bd (rt none) fun t => fun σ => (sliceD σ.b l u t a).map fun d => (d, σ)) σ = some (.lst (dPc a.reverse), σ) := by
    have h1 : sliceD σ.b none (some (a.length : Int)) none (.box 0) = some (.lst (dPc a.reverse)) := by
      show (match σ.b[0]? with | some l => if l.length ≤ 1000000 ∧ (none : Option Int) ≠ some 0 then some (D.lst (pickL l none (some (a.length : Int)) none)) else none | none => none) = _
      rw [hb]
      dsimp only
      rw [if_pos ⟨by rw [List.length_map]; omega, by simp⟩, pickL_take, ← List.map_take, h, List.take_append_of_le_length (by simp), List.take_of_length_le (by simp)]
    rw [bd_ev (rd_ev v2), bd_ev (a := none) (σ' := σ) rfl, bd_ev (a := some (a.length : Int)) (σ' := σ) (by rw [bd_ev (rd_ev v13)]; rfl), bd_ev (a := none) (σ' := σ) rfl, h1]; rfl
  have hc := comp2 (is := []) (σ := σ) (mi := bd (bd (rd 2) fun a => bd (rt none) fun l => bd (bd (rd 13) fun d => lf (asI d)) fun u => bd (rt none) fun t => fun σ => (sliceD σ.b l u t a).map fun d => (d, σ)) fun d => lf (itM true d)) (m := e_law_4) (fun c => .str (pc1 c).1) (fun c => .str (pc1 c).2) (fun c => dS (ct c)) (fun _ => true) a.reverse (by rw [bd_ev hs, itM_pc]; rfl) (fun c _ => ev_e4) (by rw [List.length_reverse]; omega)
  rw [filt_true] at hc
  have ht := txt_len a.reverse
  rw [List.length_reverse] at ht
  have hj := join_rows (m := compM 2 [] (bd (bd (rd 2) fun a => bd (rt none) fun l => bd (bd (rd 13) fun d => lf (asI d)) fun u => bd (rt none) fun t => fun σ => (sliceD σ.b l u t a).map fun d => (d, σ)) fun d => lf (itM true d)) a2 e_law_4) (l := a.reverse.map ct) (σ := σ) (by rw [List.map_map]; exact hc) (by unfold txt at ht; omega)
  rw [bd_ev e1]
  refine (bd_ev hj).trans ?_
  show lf (neD (dS (txt a.reverse)) (dS (txt a.reverse))) σ = _
  rw [neD_S (txt_ch hch)]; rfl
theorem law_t2 {a b pa : List Nat} {fo p : Nat} : t_law_2 (wσ sc ms x4 x5 x6 x10 x14 x15 x16 p fo a b pa) = some (decide (0 < p), wσ sc ms x4 x5 x6 x10 x14 x15 x16 p fo a b pa) := by
  unfold t_law_2
  rw [bd_ev (rd_ev rfl), bd_ev (a := .int 0) (σ' := wσ sc ms x4 x5 x6 x10 x14 x15 x16 p fo a b pa) rfl, gtD_nat]; rfl
theorem law_body {c : Nat} {a b pa : List Nat} (h : sg ms = (c :: a).reverse ++ b) (hz : (sg ms).length ≤ 60) (hp : pa.length ≤ 10000) : ∃ ps x14', Pass (tT ms) c a ps ∧ ps.length ≤ a.length ∧ b_law_1 (wσ sc ms x4 x5 x6 x10 x14 x15 x16 (c :: a).length (stA (tT ms) (c :: a)) (c :: a) b pa) = some (.next, wσ sc ms x4 x5 x6 x10 x14' x15 x16 (c :: a).length (stA (tT ms) a) a (c :: b) (pa ++ ps)) := by
  have hl : (c :: a).length + b.length = (sg ms).length := by rw [h, List.length_append, List.length_reverse]
  have hch : ∀ x ∈ c :: a, x < 1114112 := fun x hx => sg_ch ms x (by rw [h]; simp at hx ⊢; rcases hx with hx | hx; exact .inr (.inl hx); exact .inl hx)
  obtain ⟨ps, h1, h2, h3⟩ := sp_back (tT_lt ms) c a b (hch c (.head _)) (fun x hx => hch x (.tail _ hx)) (by simp at hl; omega)
  refine ⟨ps, some (dNs ps), h2, h3, ?_⟩
  unfold b_law_1
  refine (sq_next (σ' := wσ sc ms x4 x5 x6 x10 x14 x15 x16 (c :: a).length (stA (tT ms) (c :: a)) (c :: a) b pa) (by rw [if_ev (law_t0 h (by omega))]; rfl)).trans ?_
  refine (sq_next (σ' := wσ sc ms x4 x5 x6 x10 x14 x15 x16 (c :: a).length (stA (tT ms) (c :: a)) (c :: a) b pa) (by rw [if_ev (law_t1 h (by omega))]; rfl)).trans ?_
  rw [sq_rt, if_ev law_t2, if_pos (decide_eq_true (show 0 < (c :: a).length from Nat.succ_pos _))]
  have e9 : x_law_9 (wσ sc ms x4 x5 x6 x10 x14 x15 x16 (c :: a).length (stA (tT ms) (c :: a)) (c :: a) b pa) = some (.tup [dNs [stA (tT ms) a], dNs ps], wσ sc ms x4 x5 x6 x10 x14 x15 x16 (c :: a).length (stA (tT ms) (c :: a)) a (c :: b) pa) := by
    unfold x_law_9
    rw [bd_ev (a := [dTu (tT ms), .acc 0, .acc 1, .int (stA (tT ms) (c :: a) : Nat)]) (σ' := wσ sc ms x4 x5 x6 x10 x14 x15 x16 (c :: a).length (stA (tT ms) (c :: a)) (c :: a) b pa) rfl]
    exact callM_ev rfl h1
  have e10 : x_law_10 (wσ sc ms x4 x5 x6 x10 (some (dNs ps)) x15 x16 (c :: a).length (stA (tT ms) a) a (c :: b) pa) = some (.none, wσ sc ms x4 x5 x6 x10 (some (dNs ps)) x15 x16 (c :: a).length (stA (tT ms) a) a (c :: b) (pa ++ ps)) := by
    unfold x_law_10
    rw [bd_ev (rd_ev rfl), if_pos (show isBox (D.box 2) = true from rfl), bd_ev (a := [dNs ps]) (σ' := wσ sc ms x4 x5 x6 x10 (some (dNs ps)) x15 x16 (c :: a).length (stA (tT ms) a) a (c :: b) pa) rfl]
    show (if (dPa pa).length + (dPa ps).length ≤ 100000 then _ else none) = _
    rw [if_pos (by rw [List.length_map, List.length_map]; simp at hl; omega)]
    simp
  refine (sq_next (σ' := wσ sc ms x4 x5 x6 x10 (some (dNs ps)) x15 x16 (c :: a).length (stA (tT ms) a) a (c :: b) pa) ((bd_ev e9).trans rfl)).trans ?_
  rw [sq_rt]
  exact (bd_ev e10).trans rfl
theorem law_l2 (hz : (sg ms).length ≤ 60) : ∀ (a b pa : List Nat) (x13 x14 : Option D), sg ms = a.reverse ++ b → pa.length + 60 * a.length ≤ 9000 → ∃ qs x13' x14', Tot (tT ms) a qs ∧
    loopM (fun d σ => some (wr 13 d σ)) b_law_1 o_law_1 ((downs a.length).map fun (n : Nat) => D.int (n : Int)) (lσ sc (dI ms) x4 x5 x6 (some (dTu (tT ms))) (some (.acc 0)) (some (.acc 1)) x10 (some (dNs [stA (tT ms) a])) (some (.box 2)) x13 x14 x15 x16 (cf a b) [dPc (sg ms), dPa (stl (tT ms) (sg ms).reverse), dPa pa]) =
      some (.next, lσ sc (dI ms) x4 x5 x6 (some (dTu (tT ms))) (some (.acc 0)) (some (.acc 1)) x10 (some (dNs [0])) (some (.box 2)) x13' x14' x15 x16 (cf [] (sg ms)) [dPc (sg ms), dPa (stl (tT ms) (sg ms).reverse), dPa (pa ++ qs)])
  | [], b, pa, x13, x14, h, hp => by
    have hb : b = sg ms := h.symm
    refine ⟨[], some (.int ((0 : Nat) : Int)), x14, .nil, ?_⟩
    rw [List.append_nil]
    have body : b_law_1 (wσ sc ms x4 x5 x6 x10 x14 x15 x16 0 (stA (tT ms) []) [] b pa) = some (.next, wσ sc ms x4 x5 x6 x10 x14 x15 x16 0 (stA (tT ms) []) [] b pa) := by
      unfold b_law_1
      refine (sq_next (σ' := wσ sc ms x4 x5 x6 x10 x14 x15 x16 0 (stA (tT ms) []) [] b pa) ((if_ev (law_t0 (a := []) h (by omega))).trans rfl)).trans ?_
      refine (sq_next (σ' := wσ sc ms x4 x5 x6 x10 x14 x15 x16 0 (stA (tT ms) []) [] b pa) ((if_ev (law_t1 (a := []) h (by omega))).trans rfl)).trans ?_
      rw [sq_rt, if_ev law_t2]; rfl
    refine (loop_next (σ1 := wσ sc ms x4 x5 x6 x10 x14 x15 x16 0 (stA (tT ms) []) [] b pa) rfl body).trans ?_
    rw [hb]; rfl
  | c :: a, b, pa, x13, x14, h, hp => by
    have hl : (c :: a).length + b.length = (sg ms).length := by rw [h, List.length_append, List.length_reverse]
    obtain ⟨ps, y14, h1, h2, h3⟩ := law_body (sc := sc) (x4 := x4) (x5 := x5) (x6 := x6) (x10 := x10) (x14 := x14) (x15 := x15) (x16 := x16) (pa := pa) h hz (by omega)
    obtain ⟨qs, z13, z14, h4, h5⟩ := law_l2 hz a (c :: b) (pa ++ ps) (some (.int ((c :: a).length : Nat))) y14 (by rw [h]; simp) (by simp at hp hl ⊢; omega)
    refine ⟨ps ++ qs, z13, z14, .cons h1 h4, ?_⟩
    refine (loop_next (σ1 := wσ sc ms x4 x5 x6 x10 x14 x15 x16 (c :: a).length (stA (tT ms) (c :: a)) (c :: a) b pa) rfl h3).trans (h5.trans ?_)
    rw [List.append_assoc]
end
end Mine
end
section
open PySem PySem.W
set_option autoImplicit false
namespace Mine
theorem compF_ev {i n : Nat} {is : List Nat} {t : Bool} {asg : D → MS → Option MS} {m : Mx (List D)} {σ : MS} {d : D} {ds out : List D} {v' : List (Option D)} (h1 : σ.v[i]? = some (some d)) (h2 : frz σ.b d = some (.lst ds)) (h3 : allUn t ds = true)
    (h4 : clsM asg m ds (capV n is (fzS σ)) = some (out, ⟨v', σ.a, []⟩)) (h5 : out.length ≤ 1000000) (h6 : out.all atom = true) : compFM i n is t asg m σ = some (.lst out, σ) := by
  have hr : rd i (fzS σ) = some (.lst ds, fzS σ) := by
    refine rd_ev ?_
    show (σ.v.map fun o => o.bind (frz σ.b))[i]? = _
    rw [List.getElem?_map, h1]
    show some (frz σ.b d) = _
    rw [h2]
  unfold compFM
  rw [hr]
  dsimp only
  rw [if_pos h3, h4]
  dsimp only
  rw [if_pos ⟨h5, h6, rfl⟩]
theorem frz_box {b : List (List D)} {i : Nat} {l : List D} (h : b[i]? = some l) (hn : noBs l = true) : frz b (.box i) = some (.lst l) := by
  unfold frz
  rw [h]
  exact if_pos hn
theorem noBs_pc (l : List Nat) : noBs (dPc l) = true := noBs_map _ (fun _ => rfl) _
theorem txt_app (a b : List Nat) : txt (a ++ b) = txt a ++ txt b := by unfold txt; rw [List.map_append, List.flatten_append]
theorem txt_rev : ∀ l : List Nat, (txt l.reverse).length = (txt l).length
  | [] => rfl
  | c :: l => by
    rw [List.reverse_cons, txt_app, List.length_append, txt_rev l]
    have : txt (c :: l) = txt [c] ++ txt l := txt_app [c] l
    rw [this, List.length_append, Nat.add_comm]
theorem sum_txt : ∀ l : List Nat, (l.map fun c => ((ct c).length : Int)).sum = ((txt l).length : Int)
  | [] => rfl
  | c :: l => by
    have : txt (c :: l) = ct c ++ txt l := rfl
    rw [List.map_cons, List.sum_cons, sum_txt l, this, List.length_append, Int.natCast_add]
theorem all_atom_ints (l : List Int) : (l.map D.int).all atom = true := by
  rw [List.all_eq_true]
  intro x hx
  obtain ⟨n, _, rfl⟩ := List.mem_map.mp hx
  rfl
theorem pyOs_pc (l : List Nat) (h : ∀ c ∈ l, c < 1114112) : pyOs (dPc l) = some (l.map fun c => PyData.tuple [.str (pc1 c).1, .str (pc1 c).2]) := by
  induction l with
  | nil => rfl
  | cons c l ih =>
    have hc := h c (.head _)
    have e : pyO (part (pc1 c)) = some (.tuple [.str (pc1 c).1, .str (pc1 c).2]) := by
      rw [part_pc1]
      have h1 := strOk_S (if c = 45 ∨ sst c then [32] else []) (by intro x hx; split at hx <;> simp at hx; omega)
      have h2 := strOk_S (if c = 45 then [] else [c]) (by intro x hx; split at hx <;> simp at hx; omega)
      unfold pyO pyOs
      rw [h1]
      unfold pyOs
      rw [h2]
      rfl
    rw [dPc, List.map_cons, pyOs, e, show pyOs (l.map fun c => part (pc1 c)) = _ from ih fun d hd => h d (.tail _ hd)]
    rfl
theorem neD_pc (l : List Nat) (h : ∀ c ∈ l, c < 1114112) : neD (.lst (dPc l)) (.lst (dPc l)) = some false := by
  unfold neD eqD
  have e : pyO (.lst (dPc l)) = some (.list (l.map fun c => PyData.tuple [.str (pc1 c).1, .str (pc1 c).2])) := by
    unfold pyO; rw [pyOs_pc l h]; rfl
  have dep : ∀ l : List Nat, PyData.depthAll (l.map fun c => PyData.tuple [.str (pc1 c).1, .str (pc1 c).2]) ≤ 10 := by
    intro l
    induction l with
    | nil => simp [PyData.depthAll]
    | cons a l ih => simp only [List.map_cons, PyData.depthAll, PyData.depth]; omega
  have eq : ∀ l : List Nat, PyData.eqvAll (l.map fun c => PyData.tuple [.str (pc1 c).1, .str (pc1 c).2]) (l.map fun c => PyData.tuple [.str (pc1 c).1, .str (pc1 c).2]) = true := by
    intro l
    induction l with
    | nil => simp [PyData.eqvAll]
    | cons a l ih => simp [PyData.eqvAll, PyData.eqv] at ih ⊢; exact ih
  rw [e]
  dsimp only
  rw [if_pos ⟨by simp only [PyData.depth]; have := dep l; omega, by simp only [PyData.depth]; have := dep l; omega⟩]
  have : PyData.eqv (.list (l.map fun c => PyData.tuple [.str (pc1 c).1, .str (pc1 c).2])) (.list (l.map fun c => PyData.tuple [.str (pc1 c).1, .str (pc1 c).2])) = true := by
    simp only [PyData.eqv, eq]
  rw [this]; rfl
theorem ints_d : ∀ (ns : List Int), intsD (ns.map .int) = some ns
  | [] => rfl
  | n :: ns => by show (intsD (ns.map .int)).map (n :: ·) = _; rw [ints_d ns]; rfl
theorem ints_pa (l : List Nat) : intsD (dPa l) = some (l.map fun (n : Nat) => (n : Int)) := by
  have := ints_d (l.map fun (n : Nat) => (n : Int))
  rw [List.map_map] at this
  exact this
theorem count_int (k : Nat) : ∀ l : List Nat, (l.map fun (n : Nat) => (n : Int)).count (k : Int) = l.count k
  | [] => rfl
  | n :: l => by
    rw [List.map_cons, List.count_cons, List.count_cons, count_int k l, int_beq]
    congr 1
theorem range_down : ∀ n, n = 10 ∨ n = 20 ∨ n = 30 → rangeL ((n : Nat) : Int) (-1) (-1) = some ((downs n).map fun (k : Nat) => D.int (k : Int)) := by
  intro n h
  rcases h with rfl | rfl | rfl <;> rfl
section
variable {sc : D} {ms : List Nat} {x4 x5 x6 x7 x8 x9 x10 x11 x12 x13 x14 x15 x16 : Option D} {al : List Acc} {bx : List (List D)} {pa : List Nat} {σ : MS}
theorem ev_e5 {c : Nat} {al : List Acc} {bx : List (List D)} : e_law_5 ⟨[some (.str (pc1 c).1), some (.str (pc1 c).2)], al, bx⟩ = some ([.int ((ct c).length : Int)], ⟨[some (.str (pc1 c).1), some (.str (pc1 c).2)], al, bx⟩) := by
  unfold e_law_5
  have : addD (.str (pc1 c).1) (.str (pc1 c).2) = some (dS (ct c)) := by
    unfold addD
    dsimp only
    have h2 := ct_len c
    unfold ct at h2
    unfold pc1
    dsimp only
    rw [S_length, S_length, S_append]
    rw [List.length_append] at h2
    rw [if_pos (Nat.le_trans h2 (by decide))]; rfl
  have e1 : (bd (bd (rd 0) fun a => bd (rd 1) fun b => lf (addD a b)) fun d => bd (rt []) fun ds => rt (d :: ds) : Mx (List D)) ⟨[some (.str (pc1 c).1), some (.str (pc1 c).2)], al, bx⟩ = some ([dS (ct c)], ⟨[some (.str (pc1 c).1), some (.str (pc1 c).2)], al, bx⟩) := by
    rw [bd_ev (a := dS (ct c)) (σ' := ⟨[some (.str (pc1 c).1), some (.str (pc1 c).2)], al, bx⟩) (by
      rw [bd_ev (rd_ev rfl), bd_ev (rd_ev rfl), this]; rfl)]
    rfl
  rw [bd_ev (a := .int ((ct c).length : Int)) (σ' := ⟨[some (.str (pc1 c).1), some (.str (pc1 c).2)], al, bx⟩)]
  · rfl
  · rw [bd_ev e1]
    unfold lenM lenD
    dsimp only
    rw [S_length, if_pos (Nat.le_trans (ct_len c) (by decide))]
theorem c_lens (v2 : σ.v[2]? = some (some (.box 0))) (hb : σ.b[0]? = some (dPc (sg ms))) (hz : (sg ms).length ≤ 1000) : compFM 2 2 [] true a2 e_law_5 σ = some (.lst ((sg ms).map fun c => .int ((ct c).length : Int)), σ) := by
  obtain ⟨σ', h, p1, p2, _⟩ := cls_filt (fun c => D.tup [.str (pc1 c).1, .str (pc1 c).2]) (fun c => D.int ((ct c).length : Int)) (fun _ => true) a2 e_law_5 (fun τ => τ.a = σ.a ∧ τ.b = [] ∧ ∃ x y, τ.v = [x, y]) (sg ms) (by
    intro c hc τ hτ
    obtain ⟨v, al, b⟩ := τ
    obtain ⟨h1, h2, x, y, h3⟩ := hτ
    subst h1; subst h2; subst h3
    exact ⟨_, _, rfl, ev_e5, rfl, rfl, _, _, rfl⟩) (capV 2 [] (fzS σ)) ⟨rfl, rfl, _, _, rfl⟩
  rw [filt_true] at h
  obtain ⟨v', a', b'⟩ := σ'
  dsimp only at p1 p2
  subst p1; subst p2
  refine compF_ev v2 (frz_box hb (noBs_pc _)) ?_ h (by rw [List.length_map]; omega) ?_
  · unfold allUn
    simp only [Bool.not_true, Bool.false_or, List.all_eq_true]
    intro x hx
    obtain ⟨p, _, rfl⟩ := List.mem_map.mp hx
    rfl
  · have := all_atom_ints ((sg ms).map fun c => ((ct c).length : Int))
    rw [List.map_map] at this
    exact this
theorem c_many (v12 : σ.v[12]? = some (some (.box 2))) (hb : σ.b[2]? = some (dPa pa)) (h2 : ∀ k, pa.count k ≤ 2) : compFM 12 1 [12] false (fun d σ => some (wr 0 d σ)) e_law_6 σ = some (.lst [], σ) := by
  have hf := frz_box hb (noBs_ns pa)
  have hcap : [12].map (fun i => ((fzS σ).v[i]?).join) = [some (D.lst (dPa pa))] := by
    have : (fzS σ).v[12]? = some (some (D.lst (dPa pa))) := by
      show (σ.v.map fun o => o.bind (frz σ.b))[12]? = _
      rw [List.getElem?_map, v12]
      show some (frz σ.b (.box 2)) = _
      rw [hf]
    rw [List.map_cons, this]; rfl
  obtain ⟨σ', h, p1, p2, _⟩ := cls_filt (fun (n : Nat) => D.int (n : Int)) (fun (n : Nat) => D.int (n : Int)) (fun k => decide (2 < pa.count k)) (fun d σ => some (wr 0 d σ)) e_law_6 (fun τ => τ.a = σ.a ∧ τ.b = [] ∧ ∃ x, τ.v = [x, some (.lst (dPa pa))]) pa (by
    intro k hk τ hτ
    obtain ⟨v, al, b⟩ := τ
    obtain ⟨h1, h2, x, h3⟩ := hτ
    subst h1; subst h2; subst h3
    refine ⟨⟨[some (.int k), some (.lst (dPa pa))], σ.a, []⟩, ⟨[some (.int k), some (.lst (dPa pa))], σ.a, []⟩, rfl, ?_, rfl, rfl, _, rfl⟩
    show e_law_6 ⟨[some (.int k), some (.lst (dPa pa))], σ.a, []⟩ = some (if decide (2 < pa.count k) then [.int k] else [], ⟨[some (.int k), some (.lst (dPa pa))], σ.a, []⟩)
    unfold e_law_6
    refine filt_ev ?_ (fun _ => rfl)
    have e1 : ((bd (rd 1) fun d => if isLst d then bd (bd (rd 0) fun d => bd (rt []) fun ds => rt (d :: ds)) fun ds => lcountM (d :: ds) else fun _ => none) : Mx D) ⟨[some (.int k), some (.lst (dPa pa))], σ.a, []⟩ = some (.int (pa.count k : Nat), ⟨[some (.int k), some (.lst (dPa pa))], σ.a, []⟩) := by
      rw [bd_ev (rd_ev rfl), if_pos (show isLst (D.lst (dPa pa)) = true from rfl), bd_ev (a := [.int k]) (σ' := ⟨[some (.int k), some (.lst (dPa pa))], σ.a, []⟩) rfl]
      unfold lcountM
      dsimp only
      rw [ints_pa]
      dsimp only
      rw [count_int]
    rw [bd_ev e1, bd_ev (a := .int 2) (σ' := ⟨[some (.int k), some (.lst (dPa pa))], σ.a, []⟩) rfl]
    have : gtD (.int (pa.count k : Nat)) (.int 2) = some (decide (2 < pa.count k)) := by
      show some (decide ((2 : Int) < ((pa.count k : Nat) : Int))) = _
      congr 1
      exact decide_eq_decide.mpr (by omega)
    rw [this]; rfl) (capV 1 [12] (fzS σ)) ⟨rfl, rfl, none, by show [none] ++ [12].map (fun i => ((fzS σ).v[i]?).join) = _; rw [hcap]; rfl⟩
  have hn : (pa.filter fun k => decide (2 < pa.count k)) = [] := by
    refine List.filter_eq_nil_iff.mpr fun k _ => ?_
    have := h2 k
    simp; omega
  rw [hn] at h
  obtain ⟨v', a', b'⟩ := σ'
  dsimp only at p1 p2
  subst p1; subst p2
  exact compF_ev v12 hf rfl h (by decide) rfl
end
end Mine
end
section
open PySem PySem.W
set_option autoImplicit false
namespace Mine
section
variable {sc : D} {ms : List Nat} {x4 x5 x6 x7 x10 x11 x13 x14 x15 x16 : Option D} {al : List Acc} {st qs : List D}
noncomputable abbrev eσ (sc : D) (ms : List Nat) (x4 x5 x6 x7 x10 x11 x13 x14 x15 x16 : Option D) (al : List Acc) (st qs : List D) : MS :=
  lσ sc (dI ms) x4 x5 x6 x7 (some (.acc 0)) (some (.acc 1)) x10 x11 (some (.box 2)) x13 x14 x15 x16 al [dPc (sg ms), st, qs]
theorem len_pc {σ : MS} {i j n : Nat} {l : List Nat} (hv : σ.v[i]? = some (some (.acc j))) (h : σ.a[j]? = some ((n : Int), l.map pc1)) (hn : n ≤ 10) (hz : l.length ≤ 400) : (bd (bd (rd i) fun d => bd (rt []) fun ds => rt (d :: ds)) (lenA p_len) : Mx D) σ = some (.int ((n + (txt l).length : Nat) : Int), σ) := by
  rw [bd_ev (a := [.acc j]) (σ' := σ) (by rw [bd_ev (rd_ev hv)]; rfl)]
  have ht := txt_len l
  have := lenA_ev h (lenOk_pc n ⟨by omega, by omega⟩ l (by omega)) (by dsimp only; rw [sum_pc]; omega)
  rw [this]
  dsimp only
  rw [sum_pc, Int.natCast_add]
theorem st_8 (hz : (sg ms).length ≤ 100) : s_law_8 (eσ sc ms x4 x5 x6 x7 x10 x11 x13 x14 x15 x16 (cf [] (sg ms)) st qs) = some (.next, eσ sc ms x4 x5 x6 x7 x10 x11 x13 x14 x15 x16 (cf [] (sg ms)) st qs) := by
  unfold s_law_8
  have t : t_law_3 (eσ sc ms x4 x5 x6 x7 x10 x11 x13 x14 x15 x16 (cf [] (sg ms)) st qs) = some (false, eσ sc ms x4 x5 x6 x7 x10 x11 x13 x14 x15 x16 (cf [] (sg ms)) st qs) := by
    generalize hσ : eσ sc ms x4 x5 x6 x7 x10 x11 x13 x14 x15 x16 (cf [] (sg ms)) st qs = σ
    have v8 : σ.v[8]? = some (some (.acc 0)) := by rw [← hσ]; rfl
    have v9 : σ.v[9]? = some (some (.acc 1)) := by rw [← hσ]; rfl
    have v2 : σ.v[2]? = some (some (.box 0)) := by rw [← hσ]; rfl
    have hb : σ.b[0]? = some (dPc (sg ms)) := by rw [← hσ]; rfl
    have a0 : σ.a[0]? = some (((1 : Nat) : Int), ([] : List Nat).map pc1) := by rw [← hσ]; rfl
    have a1 : σ.a[1]? = some (((2 : Nat) : Int), (sg ms).reverse.map pc1) := by rw [← hσ]; rfl
    unfold t_law_3
    rw [bd_ev (a := false) (σ' := σ)]
    · show (bd (bd (bd (rd 9) fun d => bd (rt []) fun ds => rt (d :: ds)) (lenA p_len)) fun a => bd (bd (rt (.int 2)) fun a => bd (bd (bd (compFM 2 2 [] true a2 (e_law_5)) fun d => bd (rt []) fun ds => rt (d :: ds)) sumLM) fun b => lf (addD a b)) fun b => lf (neD a b)) σ = _
      rw [bd_ev (len_pc v9 a1 (by decide) (by rw [List.length_reverse]; omega))]
      have hs : (bd (bd (compFM 2 2 [] true a2 (e_law_5)) fun d => bd (rt []) fun ds => rt (d :: ds)) sumLM) σ = some (.int ((txt (sg ms)).length : Nat), σ) := by
        rw [bd_ev (a := [.lst ((sg ms).map fun c => .int ((ct c).length : Int))]) (σ' := σ) (by rw [bd_ev (c_lens v2 hb (by omega))]; rfl)]
        have := ints_d ((sg ms).map fun c => ((ct c).length : Int))
        rw [List.map_map] at this
        unfold sumLM
        dsimp only
        rw [show intsD ((sg ms).map fun c => D.int ((ct c).length : Int)) = _ from this]
        dsimp only
        rw [sum_txt]
      rw [bd_ev (a := .int ((2 + (txt (sg ms)).length : Nat) : Int)) (σ' := σ)]
      · rw [txt_rev, neD_int, decide_eq_true rfl]; rfl
      · rw [bd_ev (a := .int 2) (σ' := σ) rfl, bd_ev hs, Int.natCast_add]; rfl
    · rw [bd_ev (len_pc v8 a0 (by decide) (by decide)), bd_ev (a := .int ((1 : Nat) : Int)) (σ' := σ) rfl, neD_int]; rfl
  rw [if_ev t]; rfl
theorem st_9 (h4 : 4 ≤ ms.length) : s_law_9 (eσ sc ms x4 x5 x6 x7 x10 x11 x13 x14 x15 x16 al st qs) = some (.next, eσ sc ms x4 x5 x6 x7 x10 x11 x13 x14 (some (.int (ms.getD 3 0 % 10 : Nat))) x16 al st qs) := by
  unfold s_law_9
  have : x_law_12 (eσ sc ms x4 x5 x6 x7 x10 x11 x13 x14 x15 x16 al st qs) = some (.int (ms.getD 3 0 % 10 : Nat), eσ sc ms x4 x5 x6 x7 x10 x11 x13 x14 x15 x16 al st qs) := by
    unfold x_law_12
    have hi : itemD [dPc (sg ms), st, qs] (dI ms) (.int ((3 : Nat) : Int)) = some (.int (ms.getD 3 0 : Nat)) := by
      refine itemL_nat ?_ (by decide)
      rw [List.getElem?_map, getD_some (z := 0) (show 3 < ms.length from h4)]; rfl
    rw [bd_ev (a := .int (ms.getD 3 0 : Nat)) (σ' := eσ sc ms x4 x5 x6 x7 x10 x11 x13 x14 x15 x16 al st qs)]
    · rw [bd_ev (a := .int 10) (σ' := eσ sc ms x4 x5 x6 x7 x10 x11 x13 x14 x15 x16 al st qs) rfl]
      have : modD (.int (ms.getD 3 0 : Nat)) (.int 10) = some (.int (ms.getD 3 0 % 10 : Nat)) := by
        rw [← fmd]; rfl
      rw [this]; rfl
    · rw [bd_ev (rd_ev rfl), bd_ev (a := .int ((3 : Nat) : Int)) (σ' := eσ sc ms x4 x5 x6 x7 x10 x11 x13 x14 x15 x16 al st qs) rfl]
      dsimp only
      rw [hi]; rfl
  exact (bd_ev this).trans rfl
theorem st_10 {i : Nat} (hi : i ≤ (sg ms).length) (hz : (sg ms).length ≤ 100) : s_law_10 (eσ sc ms x4 x5 x6 x7 x10 x11 x13 x14 (some (.int (i : Nat))) x16 (cf [] (sg ms)) st qs) = some (.next, eσ sc ms x4 x5 x6 x7 x10 x11 x13 x14 (some (.int (i : Nat))) (some (.lst (dPc ((sg ms).reverse.drop i)))) [(1, []), (2, ((sg ms).reverse.take i).map pc1)] st qs) := by
  have h := sp_pop_from (al := cf [] (sg ms)) (j := 1) (i := i) (A := (2, (sg ms).reverse.map pc1)) (ds := [.acc 1, .int (i : Nat)]) rfl rfl (by simpa using hi) (by simp; omega)
  have e : x_law_13 (eσ sc ms x4 x5 x6 x7 x10 x11 x13 x14 (some (.int (i : Nat))) x16 (cf [] (sg ms)) st qs) = some (.lst (dPc ((sg ms).reverse.drop i)), eσ sc ms x4 x5 x6 x7 x10 x11 x13 x14 (some (.int (i : Nat))) x16 [(1, []), (2, ((sg ms).reverse.take i).map pc1)] st qs) := by
    unfold x_law_13
    rw [bd_ev (rd_ev rfl), if_pos (show isAcc (D.acc 1) = true from rfl), bd_ev (a := [.int (i : Nat)]) (σ' := eσ sc ms x4 x5 x6 x7 x10 x11 x13 x14 (some (.int (i : Nat))) x16 (cf [] (sg ms)) st qs) rfl]
    refine (callM_ev rfl h).trans ?_
    dsimp only
    rw [← List.map_drop, ← List.map_take, List.map_map]
    rfl
  exact (bd_ev e).trans rfl
theorem st_11 {i : Nat} (hi : i ≤ (sg ms).length) (hz : (sg ms).length ≤ 100) : s_law_11 (eσ sc ms x4 x5 x6 x7 x10 x11 x13 x14 (some (.int (i : Nat))) (some (.lst (dPc ((sg ms).reverse.drop i)))) [(1, []), (2, ((sg ms).reverse.take i).map pc1)] st qs) = some (.next, eσ sc ms x4 x5 x6 x7 x10 x11 x13 x14 (some (.int (i : Nat))) (some (.lst (dPc ((sg ms).reverse.drop i)))) [(1, []), (2, [])] st qs) := by
  have hl : ((sg ms).reverse.take i).length = i := by rw [List.length_take, List.length_reverse]; omega
  unfold s_law_11
  have t : t_law_4 (eσ sc ms x4 x5 x6 x7 x10 x11 x13 x14 (some (.int (i : Nat))) (some (.lst (dPc ((sg ms).reverse.drop i)))) [(1, []), (2, ((sg ms).reverse.take i).map pc1)] st qs) = some (false, eσ sc ms x4 x5 x6 x7 x10 x11 x13 x14 (some (.int (i : Nat))) (some (.lst (dPc ((sg ms).reverse.drop i)))) [(1, []), (2, [])] st qs) := by
    unfold t_law_4
    have c0 : (bd (bd (rd 9) fun d => if isAcc d then callM p_part_count [d] else fun _ => none) fun a => bd (rd 15) fun b => lf (neD a b)) (eσ sc ms x4 x5 x6 x7 x10 x11 x13 x14 (some (.int (i : Nat))) (some (.lst (dPc ((sg ms).reverse.drop i)))) [(1, []), (2, ((sg ms).reverse.take i).map pc1)] st qs) = some (false, eσ sc ms x4 x5 x6 x7 x10 x11 x13 x14 (some (.int (i : Nat))) (some (.lst (dPc ((sg ms).reverse.drop i)))) [(1, []), (2, ((sg ms).reverse.take i).map pc1)] st qs) := by
      have := sp_part_count (al := [(1, []), (2, ((sg ms).reverse.take i).map pc1)]) (i := 1) (A := (2, ((sg ms).reverse.take i).map pc1)) rfl
      dsimp only at this
      rw [List.length_map, hl] at this
      rw [bd_ev (a := .int (i : Nat)) (σ' := eσ sc ms x4 x5 x6 x7 x10 x11 x13 x14 (some (.int (i : Nat))) (some (.lst (dPc ((sg ms).reverse.drop i)))) [(1, []), (2, ((sg ms).reverse.take i).map pc1)] st qs)]
      · rw [bd_ev (rd_ev rfl), neD_int, decide_eq_true rfl]; rfl
      · rw [bd_ev (rd_ev rfl), if_pos (show isAcc (D.acc 1) = true from rfl)]
        exact callM_ev rfl this
    rw [bd_ev c0, if_neg (by decide)]
    have c1 : ((bd (rd 9) fun d => if isAcc d then callM p_pop_from [d] else fun _ => none) : Mx D) (eσ sc ms x4 x5 x6 x7 x10 x11 x13 x14 (some (.int (i : Nat))) (some (.lst (dPc ((sg ms).reverse.drop i)))) [(1, []), (2, ((sg ms).reverse.take i).map pc1)] st qs) = some (.lst (dPc ((sg ms).reverse.take i)), eσ sc ms x4 x5 x6 x7 x10 x11 x13 x14 (some (.int (i : Nat))) (some (.lst (dPc ((sg ms).reverse.drop i)))) [(1, []), (2, [])] st qs) := by
      have h := sp_pop_from (al := [(1, []), (2, ((sg ms).reverse.take i).map pc1)]) (j := 1) (i := 0) (A := (2, ((sg ms).reverse.take i).map pc1)) (ds := [.acc 1]) rfl rfl (Nat.zero_le _) (by rw [List.length_map, hl]; omega)
      rw [bd_ev (rd_ev rfl), if_pos (show isAcc (D.acc 1) = true from rfl)]
      refine (callM_ev rfl h).trans ?_
      dsimp only
      rw [List.drop_zero, List.take_zero, List.map_map]
      rfl
    generalize hσ : eσ sc ms x4 x5 x6 x7 x10 x11 x13 x14 (some (.int (i : Nat))) (some (.lst (dPc ((sg ms).reverse.drop i)))) [(1, []), (2, [])] st qs = σ at c1 ⊢
    have v16 : σ.v[16]? = some (some (.lst (dPc ((sg ms).reverse.drop i)))) := by rw [← hσ]; rfl
    have v2 : σ.v[2]? = some (some (.box 0)) := by rw [← hσ]; rfl
    have v9 : σ.v[9]? = some (some (.acc 1)) := by rw [← hσ]; rfl
    have hb : σ.b[0]? = some (dPc (sg ms)) := by rw [← hσ]; rfl
    have a1 : σ.a[1]? = some (((2 : Nat) : Int), ([] : List Nat).map pc1) := by rw [← hσ]; rfl
    have c2 : (bd (bd (rd 9) fun d => if isAcc d then callM p_pop_from [d] else fun _ => none) fun a => bd (rd 16) fun b => lf (addD a b)) (eσ sc ms x4 x5 x6 x7 x10 x11 x13 x14 (some (.int (i : Nat))) (some (.lst (dPc ((sg ms).reverse.drop i)))) [(1, []), (2, ((sg ms).reverse.take i).map pc1)] st qs) = some (.lst (dPc (sg ms).reverse), σ) := by
      rw [bd_ev c1, bd_ev (rd_ev v16)]
      have : addD (.lst (dPc ((sg ms).reverse.take i))) (.lst (dPc ((sg ms).reverse.drop i))) = some (.lst (dPc (sg ms).reverse)) := by
        unfold addD
        dsimp only
        rw [if_pos (by rw [List.length_map, List.length_map, List.length_drop, hl, List.length_reverse]; omega), ← List.map_append, List.take_append_drop]
      rw [this]; rfl
    have c3 : (bd (rd 2) fun a => bd (rt none) fun l => bd (rt none) fun u => bd (bd (bd (rt (.int 1)) fun d => lf (negD d)) fun d => lf (asI d)) fun t => fun σ => (sliceD σ.b l u t a).map fun d => (d, σ)) σ = some (.lst (dPc (sg ms).reverse), σ) := by
      have h1 : sliceD σ.b none none (some (-1)) (.box 0) = some (.lst (dPc (sg ms).reverse)) := by
        show (match σ.b[0]? with | some l => if l.length ≤ 1000000 ∧ (some (-1) : Option Int) ≠ some 0 then some (D.lst (pickL l none none (some (-1)))) else none | none => none) = _
        rw [hb]
        dsimp only
        rw [if_pos ⟨by rw [List.length_map]; omega, by decide⟩, pickL_rev, ← List.map_reverse]
      rw [bd_ev (rd_ev v2), bd_ev (a := none) (σ' := σ) rfl, bd_ev (a := none) (σ' := σ) rfl, bd_ev (a := some (-1)) (σ' := σ) rfl, h1]; rfl
    rw [bd_ev (a := false) (σ' := σ)]
    · show (bd (bd (bd (rd 9) fun d => bd (rt []) fun ds => rt (d :: ds)) (lenA p_len)) fun a => bd (rt (.int 2)) fun b => lf (neD a b)) σ = _
      rw [bd_ev (len_pc v9 a1 (by decide) (by decide)), bd_ev (a := .int ((2 : Nat) : Int)) (σ' := σ) rfl, neD_int]; rfl
    · rw [bd_ev c2, bd_ev c3, neD_pc _ fun c hc => sg_ch ms c (List.mem_reverse.mp hc)]; rfl
  rw [if_ev t]; rfl
theorem st_12 {pa : List Nat} (h2 : ∀ k, pa.count k ≤ 2) : s_law_12 (eσ sc ms x4 x5 x6 x7 x10 x11 x13 x14 x15 x16 al st (dPa pa)) = some (.ret (.bool true), eσ sc ms x4 x5 x6 x7 x10 x11 x13 x14 x15 x16 al st (dPa pa)) := by
  unfold s_law_12
  have hc := c_many (σ := eσ sc ms x4 x5 x6 x7 x10 x11 x13 x14 x15 x16 al st (dPa pa)) (pa := pa) rfl rfl h2
  have : x_law_15 (eσ sc ms x4 x5 x6 x7 x10 x11 x13 x14 x15 x16 al st (dPa pa)) = some (.bool true, eσ sc ms x4 x5 x6 x7 x10 x11 x13 x14 x15 x16 al st (dPa pa)) := by
    unfold x_law_15
    rw [bd_ev hc, bd_ev (a := .lst []) (σ' := eσ sc ms x4 x5 x6 x7 x10 x11 x13 x14 x15 x16 al st (dPa pa)) rfl]
    have : eqD (.lst []) (.lst []) = some true := by
      unfold eqD pyO pyOs
      simp [PyData.depth, PyData.depthAll, PyData.eqv, PyData.eqvAll]
    rw [this]; rfl
  rw [bd_ev this]; rfl
end
theorem plain1 (ns : List Int) (hns : ns.length ≤ 63) : ∃ al, p_law [.lst (ns.map .int)] [] = some (.bool true, al) := by
  have hm := modesOf_lt ns
  have hlen := modesOf_len ns
  have hmodes := sp_modes ns hns []
  generalize modesOf ns = ms at hm hlen hmodes
  generalize hsc : D.lst (ns.map .int) = sc at hmodes
  have hsl := sg_len ms
  have hn : (sg ms).length = 10 ∨ (sg ms).length = 20 ∨ (sg ms).length = 30 := by omega
  have s0 : s_law_0 ⟨[some sc, none, none, none, none, none, none, none, none, none, none, none, none, none, none, none, none], [], []⟩ = some (.next, ⟨[some sc, some (dI ms), none, none, none, none, none, none, none, none, none, none, none, none, none, none, none], [], []⟩) := by
    have : x_law_0 ⟨[some sc, none, none, none, none, none, none, none, none, none, none, none, none, none, none, none, none], [], []⟩ = some (dI ms, ⟨[some sc, none, none, none, none, none, none, none, none, none, none, none, none, none, none, none, none], [], []⟩) := by
      unfold x_law_0
      rw [bd_ev (a := [sc]) (σ' := ⟨[some sc, none, none, none, none, none, none, none, none, none, none, none, none, none, none, none, none], [], []⟩) rfl]
      refine callM_ev ?_ hmodes
      rw [← hsc]
      simp only [noBs, noB, noBs_map (fun n : Int => D.int n) (fun _ => rfl), Bool.and_true]
    exact (bd_ev this).trans rfl
  have s1 : s_law_1 ⟨[some sc, some (dI ms), none, none, none, none, none, none, none, none, none, none, none, none, none, none, none], [], []⟩ = some (.next, lσ sc (dI ms) none none none none none none none none none none none none none [] [dPc ([] : List Nat).reverse, dPa (stl (tT ms) [])]) := rfl
  obtain ⟨y4, y5, hl1⟩ := law_l1 (sc := sc) (ms := ms) (x6 := none) (x7 := none) (x8 := none) (x9 := none) (x10 := none) (x11 := none) (x12 := none) (x13 := none) (x14 := none) (x15 := none) (x16 := none) (al := []) hlen.1 (sg ms) [] none none (sg_ch ms) (by simp; omega)
  rw [List.append_nil, List.reverse_reverse] at hl1
  have s2 : s_law_2 (lσ sc (dI ms) none none none none none none none none none none none none none [] [dPc ([] : List Nat).reverse, dPa (stl (tT ms) [])]) = some (.next, lσ sc (dI ms) y4 y5 none none none none none none none none none none none [] [dPc (sg ms), dPa (stl (tT ms) (sg ms).reverse)]) := by
    unfold s_law_2
    rw [bd_ev (st_2 hlen.2 hm)]
    exact hl1
  have s3 := st_3 (sc := sc) (ms := ms) (x4 := y4) (x5 := y5) (x6 := none) (x7 := none) (x8 := none) (x9 := none) (x10 := none) (x11 := none) (x12 := none) (x13 := none) (x14 := none) (x15 := none) (x16 := none) (al := []) (bx := [dPc (sg ms), dPa (stl (tT ms) (sg ms).reverse)]) hlen.2 hm
  have s4 := st_4 (sc := sc) (ms := ms) (x4 := y4) (x5 := y5) (x7 := none) (x8 := none) (x9 := none) (x10 := none) (x11 := none) (x12 := none) (x13 := none) (x14 := none) (x15 := none) (x16 := none) (al := []) (bx := [dPc (sg ms), dPa (stl (tT ms) (sg ms).reverse)]) (by omega) hlen.2
  have s5 := st_5 (sc := sc) (ms := ms) (x4 := y4) (x5 := y5) (x8 := none) (x9 := none) (x10 := none) (x11 := none) (x12 := none) (x13 := none) (x14 := none) (x15 := none) (x16 := none) (bx := [dPc (sg ms), dPa (stl (tT ms) (sg ms).reverse)]) hlen.1 hlen.2
  have s6 : s_law_6 (lσ sc (dI ms) y4 y5 (some (dRw ms)) (some (dTu (tT ms))) (some (.acc 0)) (some (.acc 1)) (some (.int (stA (tT ms) (sg ms).reverse : Nat))) none none none none none none (cf (sg ms).reverse []) [dPc (sg ms), dPa (stl (tT ms) (sg ms).reverse)]) = some (.next, lσ sc (dI ms) y4 y5 (some (dRw ms)) (some (dTu (tT ms))) (some (.acc 0)) (some (.acc 1)) (some (.int (stA (tT ms) (sg ms).reverse : Nat))) (some (dNs [stA (tT ms) (sg ms).reverse])) (some (.box 2)) none none none none (cf (sg ms).reverse []) [dPc (sg ms), dPa (stl (tT ms) (sg ms).reverse), dPa []]) := rfl
  obtain ⟨qs, z13, z14, ht, hl2⟩ := law_l2 (sc := sc) (ms := ms) (x4 := y4) (x5 := y5) (x6 := some (dRw ms)) (x10 := some (.int (stA (tT ms) (sg ms).reverse : Nat))) (x15 := none) (x16 := none) (by omega) (sg ms).reverse [] [] none none (by simp) (by simp; omega)
  rw [List.length_reverse, List.nil_append] at hl2
  have s7 : s_law_7 (lσ sc (dI ms) y4 y5 (some (dRw ms)) (some (dTu (tT ms))) (some (.acc 0)) (some (.acc 1)) (some (.int (stA (tT ms) (sg ms).reverse : Nat))) (some (dNs [stA (tT ms) (sg ms).reverse])) (some (.box 2)) none none none none (cf (sg ms).reverse []) [dPc (sg ms), dPa (stl (tT ms) (sg ms).reverse), dPa []]) = some (.next, eσ sc ms y4 y5 (some (dRw ms)) (some (dTu (tT ms))) (some (.int (stA (tT ms) (sg ms).reverse : Nat))) (some (dNs [0])) z13 z14 none none (cf [] (sg ms)) (dPa (stl (tT ms) (sg ms).reverse)) (dPa qs)) := by
    unfold s_law_7
    have : i_law_1 (lσ sc (dI ms) y4 y5 (some (dRw ms)) (some (dTu (tT ms))) (some (.acc 0)) (some (.acc 1)) (some (.int (stA (tT ms) (sg ms).reverse : Nat))) (some (dNs [stA (tT ms) (sg ms).reverse])) (some (.box 2)) none none none none (cf (sg ms).reverse []) [dPc (sg ms), dPa (stl (tT ms) (sg ms).reverse), dPa []]) = some ((downs (sg ms).length).map fun (k : Nat) => D.int (k : Int), lσ sc (dI ms) y4 y5 (some (dRw ms)) (some (dTu (tT ms))) (some (.acc 0)) (some (.acc 1)) (some (.int (stA (tT ms) (sg ms).reverse : Nat))) (some (dNs [stA (tT ms) (sg ms).reverse])) (some (.box 2)) none none none none (cf (sg ms).reverse []) [dPc (sg ms), dPa (stl (tT ms) (sg ms).reverse), dPa []]) := by
      generalize hσ : lσ sc (dI ms) y4 y5 (some (dRw ms)) (some (dTu (tT ms))) (some (.acc 0)) (some (.acc 1)) (some (.int (stA (tT ms) (sg ms).reverse : Nat))) (some (dNs [stA (tT ms) (sg ms).reverse])) (some (.box 2)) none none none none (cf (sg ms).reverse []) [dPc (sg ms), dPa (stl (tT ms) (sg ms).reverse), dPa []] = σ
      have v2 : σ.v[2]? = some (some (.box 0)) := by rw [← hσ]; rfl
      have hb : σ.b[0]? = some (dPc (sg ms)) := by rw [← hσ]; rfl
      have e : (bd (bd (rd 2) fun d => bd (rt []) fun ds => rt (d :: ds)) lenM) σ = some (.int ((sg ms).length : Nat), σ) := by
        rw [bd_ev (a := [.box 0]) (σ' := σ) (by rw [bd_ev (rd_ev v2)]; rfl)]
        unfold lenM lenD
        dsimp only
        rw [hb]
        simp only [Option.map_some, List.length_map]
        rw [if_pos (by omega)]
      unfold i_law_1
      rw [bd_ev (a := [.int ((sg ms).length : Nat), .int (-1), .int (-1)]) (σ' := σ) (by rw [bd_ev e]; rfl)]
      show lf (rangeL ((sg ms).length : Nat) (-1) (-1)) σ = _
      rw [range_down _ hn]; rfl
    rw [bd_ev this]
    exact hl2
  have hi : ms.getD 3 0 % 10 ≤ (sg ms).length := by
    have : ms.getD 3 0 % 10 < 10 := Nat.mod_lt _ (by decide)
    omega
  have hm := fnP_ret (n := 1) (N := 17) (ds := [sc]) (m := m_law) (al := []) (d := .bool true) (d' := .bool true) rfl (by
    show m_law ⟨[some sc, none, none, none, none, none, none, none, none, none, none, none, none, none, none, none, none], [], []⟩ = _
    unfold m_law
    rw [sq_next s0, sq_next s1, sq_next s2, sq_next s3, sq_next s4, sq_next s5, sq_next s6, sq_next s7, sq_next (st_8 (by omega)), sq_next (st_9 hlen.1), sq_next (st_10 hi (by omega)), sq_next (st_11 hi (by omega)), sq_rt]
    exact st_12 (tot_le (tT_lt ms) ht)) rfl
  exact ⟨_, hm⟩
end Mine
end
section
open PySem PySem.W
namespace Mine
theorem join_ph0075_01 : PySem.Challenge.rw_ph0075_01.Holds := join1 plain1
end Mine
end
open PySem PySem.W PyProof.Rows
set_option maxRecDepth 100000 in
set_option maxHeartbeats 8000000 in
theorem PySem.Challenge.cw_ph0075_01_holds : PySem.Challenge.rw_ph0075_01.Holds := by
  exact Mine.join_ph0075_01
